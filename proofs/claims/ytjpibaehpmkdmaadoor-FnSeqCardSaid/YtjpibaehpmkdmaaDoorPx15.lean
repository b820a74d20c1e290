-- WRITTEN by xprint.py (a program of this session, over the kit's print) out of the translation. Not trusted: Lean checks it.
import Derived.Test.YtjpibaehpmkdmaaDoorPx0
import Derived.Test.YtjpibaehpmkdmaaDoorPx5
import Derived.Test.YtjpibaehpmkdmaaDoorPx14
namespace Go.Proofs.YtjpibaehpmkdmaaDoor.P
open Go.RowKit Go.Proofs.YtjpibaehpmkdmaaDoorW.PrintWords Go.Proofs.YtjpibaehpmkdmaaDoorW.PrintLast Go.Proofs.YtjpibaehpmkdmaaDoorW.PrintMore
attribute [local go_sem] max2_int min2_int max_two min_two max_three min_three max_four min_four run_store_float   -- for this text's walks alone
set_option linter.unusedVariables false
set_option linter.unusedSimpArgs false

/-! ### sprig_untilStep: function 81 -/
mutual
def sprig_untilStep.l0 : Nat → Int → Int → List Int → Int → Option (List Int)
  | 0, _, _, _, _ => none
  | k + 1, x1, x2, x7, x8 => if x8 > x1 then (if x7.length < 17592186044416 then (sprig_untilStep.l0 k x1 x2 (x7 ++ [x8]) (wrap64 (x8 + x2))) else (none)) else (some x7)
def sprig_untilStep.l1 : Nat → Int → Int → List Int → Int → Option (List Int)
  | 0, _, _, _, _ => none
  | k + 1, x1, x2, x7, x9 => if x9 < x1 then (if x7.length < 17592186044416 then (sprig_untilStep.l1 k x1 x2 (x7 ++ [x9]) (wrap64 (x9 + x2))) else (none)) else (some x7)
end
def sprig_untilStep.f (k : Nat) (a0 : Int) (a1 : Int) (a2 : Int) : Option (List Int) := (some (([] : List Int) : List Int)).bind fun y104 => (if a1 < a0 then (if a2 ≥ 0 then (some y104) else (sprig_untilStep.l0 k a1 a2 y104 a0)) else (if a2 ≤ 0 then (some y104) else (sprig_untilStep.l1 k a1 a2 y104 a0)))
theorem sprig_untilStep.mono_l : ∀ k, (∀ y0 y1 y2 y3, LeO (sprig_untilStep.l0 k y0 y1 y2 y3) (sprig_untilStep.l0 (k + 1) y0 y1 y2 y3)) ∧ (∀ y0 y1 y2 y3, LeO (sprig_untilStep.l1 k y0 y1 y2 y3) (sprig_untilStep.l1 (k + 1) y0 y1 y2 y3))
  | 0 => ⟨fun _ _ _ _ r h => by simp [sprig_untilStep.l0] at h, fun _ _ _ _ r h => by simp [sprig_untilStep.l1] at h⟩
  | k + 1 => by
    obtain ⟨ih0, ih1⟩ := sprig_untilStep.mono_l k
    refine ⟨?_, ?_⟩
    · intro y0 y1 y2 y3
      unfold sprig_untilStep.l0
      repeat' first
      | (with_reducible exact ih0 _ _ _ _)
      | (with_reducible exact ih1 _ _ _ _)
      | (with_reducible exact LeO.refl _)
      | (with_reducible exact LeO.none _)
      | (with_reducible refine LeO.ite ?_ ?_)
      | (with_reducible refine LeO.bind ?_ (fun _ => ?_))
      | exact ih0 _ _ _ _
      | exact ih1 _ _ _ _
      | exact LeO.none _
      | refine LeO.ite ?_ ?_
      | refine LeO.bind ?_ (fun _ => ?_)
    · intro y0 y1 y2 y3
      unfold sprig_untilStep.l1
      repeat' first
      | (with_reducible exact ih0 _ _ _ _)
      | (with_reducible exact ih1 _ _ _ _)
      | (with_reducible exact LeO.refl _)
      | (with_reducible exact LeO.none _)
      | (with_reducible refine LeO.ite ?_ ?_)
      | (with_reducible refine LeO.bind ?_ (fun _ => ?_))
      | exact ih0 _ _ _ _
      | exact ih1 _ _ _ _
      | exact LeO.none _
      | refine LeO.ite ?_ ?_
      | refine LeO.bind ?_ (fun _ => ?_)
theorem sprig_untilStep.mono : ∀ a0 a1 a2 k, LeO (sprig_untilStep.f k a0 a1 a2) (sprig_untilStep.f (k + 1) a0 a1 a2) := by
  intro a0 a1 a2 k
  obtain ⟨ih0, ih1⟩ := sprig_untilStep.mono_l k
  unfold sprig_untilStep.f
  repeat' first
      | (with_reducible exact ih0 _ _ _ _)
      | (with_reducible exact ih1 _ _ _ _)
      | (with_reducible exact LeO.refl _)
      | (with_reducible exact LeO.none _)
      | (with_reducible refine LeO.ite ?_ ?_)
      | (with_reducible refine LeO.bind ?_ (fun _ => ?_))
      | exact ih0 _ _ _ _
      | exact ih1 _ _ _ _
      | exact LeO.none _
      | refine LeO.ite ?_ ?_
      | refine LeO.bind ?_ (fun _ => ?_)
set_option maxHeartbeats 8000000 in
set_option maxRecDepth 100000 in
theorem sprig_untilStep.calls (k : Nat) (a0 : Int) (a1 : Int) (a2 : Int) (r : List Int) (w : World) (h : sprig_untilStep.f k a0 a1 a2 = some r) :
    Calls Tryd.prog 81 #[.int .i64 a0, .int .i64 a1, .int .i64 a2] w fun e w' => ∃ v0_ : Value, e = .returned (v0_) ∧ Kd.R (Kd.int .i64) 3 w' w.heap.size (fun _ => True) v0_ r ∧ Below w.heap.size w w' := by
  have HB := Aside0.mk (Below.refl w.heap.size w)
  have H : ((some (([] : List Int) : List Int)).bind fun y104 => (if a1 < a0 then (if a2 ≥ 0 then (some y104) else (sprig_untilStep.l0 k a1 a2 y104 a0)) else (if a2 ≤ 0 then (some y104) else (sprig_untilStep.l1 k a1 a2 y104 a0)))) = some r := h
  clear h
  obtain ⟨y104, hy104⟩ : ∃ y_ : List Int, y_ = (([] : List Int)) := ⟨_, rfl⟩
  replace H : (if a1 < a0 then (if a2 ≥ 0 then (some y104) else (sprig_untilStep.l0 k a1 a2 y104 a0)) else (if a2 ≤ 0 then (some y104) else (sprig_untilStep.l1 k a1 a2 y104 a0))) = some r := by first | (rw [hy104]; with_reducible exact H) | (have H2_ := (Option.bind_some _ _).symm.trans H; rw [hy104]; with_reducible exact H2_) | (have H2_ := (Option.bind_some _ _).symm.trans H; with_reducible exact H2_) | with_reducible exact H | (rw [hy104]; exact H) | exact H
  have Ny104 := Aside0.mk hy104
  clear hy104
  by_cases c4 : a1 < a0
  · rw [if_pos c4] at H
    have c4b0 : decide (a1 < a0) = true := decide_eq_true c4
    clear c4
    by_cases c5 : a2 ≥ 0
    · rw [if_pos c5] at H
      have c5b0 : decide (0 ≤ a2) = true := decide_eq_true c5
      clear c5
      as_aux_lemma =>
        obtain rfl := Option.some.inj H
        go_enter Tryd.func81, Tryd.ntmps81
        go_wp2_with (first | ((with_reducible refine gate_dst (N := 10) rfl ?_); refine Kd.R_lit (Kd.int .i64) _ 3 ?hg (N := 10) ?hd (xs := ([] : List Int)) (inner := []) (ok := fun _ => True) (okp := fun _ => True) ?hr ?hp (fun _ hk => hk) trivial (Below.refl _ _) (Nat.le_refl _) (by simp) ?_; (case hd => rfl); (case hg => rfl); (case hr => first | (go_simp; done) | (go_simp; rfl)); (case hp => exact (Reps.none _ _)); intro v105 w6 ho7 hb hg_ hnew_; clear hg_ hnew_; (first | rw [← Ny104.out] at ho7 | (simp only [Int.reduceToNat] at ho7; rw [← Ny104.out] at ho7)); have n0_ := Aside0.mk (Kd.R_lower ho7 (below_size (by repeat (first | (with_reducible first | exact HB.out | apply below_alloc | apply pw_below_drewN | apply below_drew1) | exact HB.out)))); have n1_ := Aside0.mk (below_step (by repeat (first | (with_reducible first | exact HB.out | apply below_alloc | apply pw_below_drewN | apply below_drew1) | exact HB.out)) hb); clear HB; have HO106 := n0_; have HB := n1_; clear n0_ n1_; clear hb ho7))
        go_ret
        exact ⟨_, by first | rfl | (simp [errW_none, errW_some] <;> rfl) | (simp [*, errW_none, errW_some] <;> rfl), by (with_reducible repeat (first | apply Kd.R_alloc | apply Kd.R_drewN | apply Kd.R_drew)); exact HO106.out, by repeat (first | (with_reducible first | exact HB.out | apply below_alloc | apply pw_below_drewN | apply below_drew1) | exact HB.out)⟩
    · rw [if_neg c5] at H
      have c5b0 : decide (0 ≤ a2) = false := decide_eq_false c5
      clear c5
      have H' := Aside0.mk H
      clear H
      go_enter Tryd.func81, Tryd.ntmps81
      go_wp2_with (first | ((with_reducible refine gate_dst (N := 10) rfl ?_); refine Kd.R_lit (Kd.int .i64) _ 3 ?hg (N := 10) ?hd (xs := ([] : List Int)) (inner := []) (ok := fun _ => True) (okp := fun _ => True) ?hr ?hp (fun _ hk => hk) trivial (Below.refl _ _) (Nat.le_refl _) (by simp) ?_; (case hd => rfl); (case hg => rfl); (case hr => first | (go_simp; done) | (go_simp; rfl)); (case hp => exact (Reps.none _ _)); intro v105 w8 ho9 hb hg_ hnew_; clear hg_ hnew_; (first | rw [← Ny104.out] at ho9 | (simp only [Int.reduceToNat] at ho9; rw [← Ny104.out] at ho9)); have n0_ := Aside0.mk (Kd.R_lower ho9 (below_size (by repeat (first | (with_reducible first | exact HB.out | apply below_alloc | apply pw_below_drewN | apply below_drew1) | exact HB.out)))); have n1_ := Aside0.mk (below_step (by repeat (first | (with_reducible first | exact HB.out | apply below_alloc | apply pw_below_drewN | apply below_drew1) | exact HB.out)) hb); clear HB; have HO106 := n0_; have HB := n1_; clear n0_ n1_; clear hb ho9))
      go_loopg [7, 8] k (fun kq v7 v8 w' => ∃ (x7_1 : List Int) (x8_1 : Int), v8 = .int .i64 x8_1 ∧ Aside0 (sprig_untilStep.l0 kq a1 a2 x7_1 x8_1 = some r) ∧ Aside0 (kq ≤ k) ∧ Aside0 (Kd.R (Kd.int .i64) 3 w' w.heap.size (fun _ => True) v7 x7_1) ∧ Aside0 (Below w.heap.size w w'))
      case atStart => exact ⟨(y104), (a0), (by first | rfl | (simp only [bytesLe_not]; done) | (simp; done) | (simp [*]; done)), H', ⟨Nat.le_refl _⟩, ⟨by (with_reducible repeat (first | apply Kd.R_alloc | apply Kd.R_drewN | apply Kd.R_drew)); exact HO106.out⟩, ⟨by repeat (first | (with_reducible first | exact HB.out | apply below_alloc | apply pw_below_drewN | apply below_drew1) | exact HB.out)⟩⟩
      case round =>
        clear H'
        try clear p2
        try clear c4
        try clear c4b0
        try clear c5
        try clear c5b0
        try clear c8
        obtain ⟨x7_1, x8_1, rfl, HA, HK1, HO_7, HB⟩ := hrel
        cases gk with
        | zero => exact absurd HA.out (by simp [sprig_untilStep.l0])
        | succ k1 =>
          have H := HA.out
          clear HA
          simp only [sprig_untilStep.l0] at H
          by_cases c10 : x8_1 > a1
          · rw [if_pos c10] at H
            have c10b0 : decide (a1 < x8_1) = true := decide_eq_true c10
            clear c10
            by_cases c11 : x7_1.length < 17592186044416
            · rw [if_pos c11] at H
              have LMc11 := Aside0.mk c11
              clear c11
              obtain ⟨y107, hy107⟩ : ∃ y_ : List Int, y_ = (x7_1 ++ [x8_1]) := ⟨_, rfl⟩
              replace H : (sprig_untilStep.l0 k1 a1 a2 y107 (wrap64 (x8_1 + a2))) = some r := by first | (rw [hy107]; with_reducible exact H) | (have H2_ := (Option.bind_some _ _).symm.trans H; rw [hy107]; with_reducible exact H2_) | (have H2_ := (Option.bind_some _ _).symm.trans H; with_reducible exact H2_) | with_reducible exact H | (rw [hy107]; exact H) | exact H
              have Ny107 := Aside0.mk hy107
              clear hy107
              as_aux_lemma =>
                have H' := Aside0.mk H
                clear H
                go_wp2_with (first | ((with_reducible refine gate_builtin (b := .append) (xs := #[.tmp 24, .tmp 26]) rfl ?_); at_builtin; refine Kd.R_append (Kd.int .i64) (w0 := w) w.heap.size rfl (.tmp 24) (.tmp 26) 55 3 (.int .i64 0) 8 rfl Tryd.underlying55 info3 rfl (by decide) (by omega) u7 x7_1 x8_1 [.int .i64 x8_1] (fun _ => True) (fun _ => False) rfl rfl ?aP (fun _ hk => hk.elim) ?aF ?aO ?aB ?aS ?aL ?_; (case aP => exact rfl); (case aB => exact (by repeat (first | (with_reducible first | exact HB.out | apply below_alloc | apply pw_below_drewN | apply below_drew1) | exact HB.out))); (case aF => exact (fun _ _ => trivial)); (case aO => exact (by (with_reducible repeat (first | apply Kd.R_alloc | apply Kd.R_drewN | apply Kd.R_drew)); exact HO_7.out)); (case aS => exact (below_size (by repeat (first | (with_reducible first | exact HB.out | apply below_alloc | apply pw_below_drewN | apply below_drew1) | exact HB.out)))); (case aL => have := LMc11.out; omega); intro v108 w12 ho hb hg hat; rw [← Ny107.out] at ho; have n0_ := Aside0.mk (hb); have n1_ := Aside0.mk (ho); clear HB; clear HO_7; have HB := n0_; have HO109 := n1_; clear n0_ n1_; clear ho hb hg hat))
                go_roundg k1
                case measure => have := HK1.out; omega
                case rel => exact ⟨(y107), (wrap64 (x8_1 + a2)), (by first | rfl | (simp only [bytesLe_not]; done) | (simp; done) | (simp [*]; done)), H', ⟨by have := HK1.out; omega⟩, ⟨by (with_reducible repeat (first | apply Kd.R_alloc | apply Kd.R_drewN | apply Kd.R_drew)); exact HO109.out⟩, ⟨by repeat (first | (with_reducible first | exact HB.out | apply below_alloc | apply pw_below_drewN | apply below_drew1) | exact HB.out)⟩⟩
            · rw [if_neg c11] at H
              exact absurd H (by simp)
          · rw [if_neg c10] at H
            have c10b0 : decide (a1 < x8_1) = false := decide_eq_false c10
            clear c10
            as_aux_lemma =>
              obtain rfl := Option.some.inj H
              go_wp2
              go_ret
              exact ⟨_, by first | rfl | (simp [errW_none, errW_some] <;> rfl) | (simp [*, errW_none, errW_some] <;> rfl), by (with_reducible repeat (first | apply Kd.R_alloc | apply Kd.R_drewN | apply Kd.R_drew)); exact HO_7.out, by repeat (first | (with_reducible first | exact HB.out | apply below_alloc | apply pw_below_drewN | apply below_drew1) | exact HB.out)⟩
  · rw [if_neg c4] at H
    have c4b0 : decide (a1 < a0) = false := decide_eq_false c4
    clear c4
    by_cases c13 : a2 ≤ 0
    · rw [if_pos c13] at H
      have c13b0 : decide (a2 ≤ 0) = true := decide_eq_true c13
      clear c13
      as_aux_lemma =>
        obtain rfl := Option.some.inj H
        go_enter Tryd.func81, Tryd.ntmps81
        go_wp2_with (first | ((with_reducible refine gate_dst (N := 10) rfl ?_); refine Kd.R_lit (Kd.int .i64) _ 3 ?hg (N := 10) ?hd (xs := ([] : List Int)) (inner := []) (ok := fun _ => True) (okp := fun _ => True) ?hr ?hp (fun _ hk => hk) trivial (Below.refl _ _) (Nat.le_refl _) (by simp) ?_; (case hd => rfl); (case hg => rfl); (case hr => first | (go_simp; done) | (go_simp; rfl)); (case hp => exact (Reps.none _ _)); intro v105 w14 ho15 hb hg_ hnew_; clear hg_ hnew_; (first | rw [← Ny104.out] at ho15 | (simp only [Int.reduceToNat] at ho15; rw [← Ny104.out] at ho15)); have n0_ := Aside0.mk (Kd.R_lower ho15 (below_size (by repeat (first | (with_reducible first | exact HB.out | apply below_alloc | apply pw_below_drewN | apply below_drew1) | exact HB.out)))); have n1_ := Aside0.mk (below_step (by repeat (first | (with_reducible first | exact HB.out | apply below_alloc | apply pw_below_drewN | apply below_drew1) | exact HB.out)) hb); clear HB; have HO106 := n0_; have HB := n1_; clear n0_ n1_; clear hb ho15))
        go_ret
        exact ⟨_, by first | rfl | (simp [errW_none, errW_some] <;> rfl) | (simp [*, errW_none, errW_some] <;> rfl), by (with_reducible repeat (first | apply Kd.R_alloc | apply Kd.R_drewN | apply Kd.R_drew)); exact HO106.out, by repeat (first | (with_reducible first | exact HB.out | apply below_alloc | apply pw_below_drewN | apply below_drew1) | exact HB.out)⟩
    · rw [if_neg c13] at H
      have c13b0 : decide (a2 ≤ 0) = false := decide_eq_false c13
      clear c13
      have H' := Aside0.mk H
      clear H
      go_enter Tryd.func81, Tryd.ntmps81
      go_wp2_with (first | ((with_reducible refine gate_dst (N := 10) rfl ?_); refine Kd.R_lit (Kd.int .i64) _ 3 ?hg (N := 10) ?hd (xs := ([] : List Int)) (inner := []) (ok := fun _ => True) (okp := fun _ => True) ?hr ?hp (fun _ hk => hk) trivial (Below.refl _ _) (Nat.le_refl _) (by simp) ?_; (case hd => rfl); (case hg => rfl); (case hr => first | (go_simp; done) | (go_simp; rfl)); (case hp => exact (Reps.none _ _)); intro v105 w16 ho17 hb hg_ hnew_; clear hg_ hnew_; (first | rw [← Ny104.out] at ho17 | (simp only [Int.reduceToNat] at ho17; rw [← Ny104.out] at ho17)); have n0_ := Aside0.mk (Kd.R_lower ho17 (below_size (by repeat (first | (with_reducible first | exact HB.out | apply below_alloc | apply pw_below_drewN | apply below_drew1) | exact HB.out)))); have n1_ := Aside0.mk (below_step (by repeat (first | (with_reducible first | exact HB.out | apply below_alloc | apply pw_below_drewN | apply below_drew1) | exact HB.out)) hb); clear HB; have HO106 := n0_; have HB := n1_; clear n0_ n1_; clear hb ho17))
      go_loopg [7, 9] k (fun kq v7 v9 w' => ∃ (x7_1 : List Int) (x9_1 : Int), v9 = .int .i64 x9_1 ∧ Aside0 (sprig_untilStep.l1 kq a1 a2 x7_1 x9_1 = some r) ∧ Aside0 (kq ≤ k) ∧ Aside0 (Kd.R (Kd.int .i64) 3 w' w.heap.size (fun _ => True) v7 x7_1) ∧ Aside0 (Below w.heap.size w w'))
      case atStart => exact ⟨(y104), (a0), (by first | rfl | (simp only [bytesLe_not]; done) | (simp; done) | (simp [*]; done)), H', ⟨Nat.le_refl _⟩, ⟨by (with_reducible repeat (first | apply Kd.R_alloc | apply Kd.R_drewN | apply Kd.R_drew)); exact HO106.out⟩, ⟨by repeat (first | (with_reducible first | exact HB.out | apply below_alloc | apply pw_below_drewN | apply below_drew1) | exact HB.out)⟩⟩
      case round =>
        clear H'
        try clear c1
        try clear p2
        try clear c4
        try clear c4b0
        try clear c5
        try clear c5b0
        try clear p6
        try clear c8
        try clear c10
        try clear c10b0
        try clear c11
        try clear c13
        try clear c13b0
        try clear p2
        obtain ⟨x7_1, x9_1, rfl, HA, HK1, HO_7, HB⟩ := hrel
        cases gk with
        | zero => exact absurd HA.out (by simp [sprig_untilStep.l1])
        | succ k1 =>
          have H := HA.out
          clear HA
          simp only [sprig_untilStep.l1] at H
          by_cases c18 : x9_1 < a1
          · rw [if_pos c18] at H
            have c18b0 : decide (x9_1 < a1) = true := decide_eq_true c18
            clear c18
            by_cases c19 : x7_1.length < 17592186044416
            · rw [if_pos c19] at H
              have LMc19 := Aside0.mk c19
              clear c19
              obtain ⟨y110, hy110⟩ : ∃ y_ : List Int, y_ = (x7_1 ++ [x9_1]) := ⟨_, rfl⟩
              replace H : (sprig_untilStep.l1 k1 a1 a2 y110 (wrap64 (x9_1 + a2))) = some r := by first | (rw [hy110]; with_reducible exact H) | (have H2_ := (Option.bind_some _ _).symm.trans H; rw [hy110]; with_reducible exact H2_) | (have H2_ := (Option.bind_some _ _).symm.trans H; with_reducible exact H2_) | with_reducible exact H | (rw [hy110]; exact H) | exact H
              have Ny110 := Aside0.mk hy110
              clear hy110
              as_aux_lemma =>
                have H' := Aside0.mk H
                clear H
                go_wp2_with (first | ((with_reducible refine gate_builtin (b := .append) (xs := #[.tmp 39, .tmp 41]) rfl ?_); at_builtin; refine Kd.R_append (Kd.int .i64) (w0 := w) w.heap.size rfl (.tmp 39) (.tmp 41) 55 3 (.int .i64 0) 8 rfl Tryd.underlying55 info3 rfl (by decide) (by omega) u7 x7_1 x9_1 [.int .i64 x9_1] (fun _ => True) (fun _ => False) rfl rfl ?aP (fun _ hk => hk.elim) ?aF ?aO ?aB ?aS ?aL ?_; (case aP => exact rfl); (case aB => exact (by repeat (first | (with_reducible first | exact HB.out | apply below_alloc | apply pw_below_drewN | apply below_drew1) | exact HB.out))); (case aF => exact (fun _ _ => trivial)); (case aO => exact (by (with_reducible repeat (first | apply Kd.R_alloc | apply Kd.R_drewN | apply Kd.R_drew)); exact HO_7.out)); (case aS => exact (below_size (by repeat (first | (with_reducible first | exact HB.out | apply below_alloc | apply pw_below_drewN | apply below_drew1) | exact HB.out)))); (case aL => have := LMc19.out; omega); intro v111 w20 ho hb hg hat; rw [← Ny110.out] at ho; have n0_ := Aside0.mk (hb); have n1_ := Aside0.mk (ho); clear HB; clear HO_7; have HB := n0_; have HO112 := n1_; clear n0_ n1_; clear ho hb hg hat))
                go_roundg k1
                case measure => have := HK1.out; omega
                case rel => exact ⟨(y110), (wrap64 (x9_1 + a2)), (by first | rfl | (simp only [bytesLe_not]; done) | (simp; done) | (simp [*]; done)), H', ⟨by have := HK1.out; omega⟩, ⟨by (with_reducible repeat (first | apply Kd.R_alloc | apply Kd.R_drewN | apply Kd.R_drew)); exact HO112.out⟩, ⟨by repeat (first | (with_reducible first | exact HB.out | apply below_alloc | apply pw_below_drewN | apply below_drew1) | exact HB.out)⟩⟩
            · rw [if_neg c19] at H
              exact absurd H (by simp)
          · rw [if_neg c18] at H
            have c18b0 : decide (x9_1 < a1) = false := decide_eq_false c18
            clear c18
            as_aux_lemma =>
              obtain rfl := Option.some.inj H
              go_wp2
              go_ret
              exact ⟨_, by first | rfl | (simp [errW_none, errW_some] <;> rfl) | (simp [*, errW_none, errW_some] <;> rfl), by (with_reducible repeat (first | apply Kd.R_alloc | apply Kd.R_drewN | apply Kd.R_drew)); exact HO_7.out, by repeat (first | (with_reducible first | exact HB.out | apply below_alloc | apply pw_below_drewN | apply below_drew1) | exact HB.out)⟩

/-! ### sprig_seq: function 60 -/
mutual
def sprig_seq.j0 : Nat → Int → Int → Int → Option (ByteArray)
  | 0, _, _, _ => none
  | k + 1, x3, x4, x5 => (sprig_untilStep.f k x4 (wrap64 (x5 + x3)) x3).bind fun t114 => ((sprig_intArrayToString.f t114 (⟨#[32]⟩ : ByteArray)).bind fun t117 => (some t117))
def sprig_seq.j1 : Nat → Int → Int → Int → Int → Option (ByteArray)
  | 0, _, _, _, _ => none
  | k + 1, x3, x6, x7, x8 => (sprig_untilStep.f k x6 (wrap64 (x7 + x3)) x8).bind fun t121 => ((sprig_intArrayToString.f t121 (⟨#[32]⟩ : ByteArray)).bind fun t124 => (some t124))
def sprig_seq.j2 : Nat → Int → Int → Int → Option (ByteArray)
  | 0, _, _, _ => none
  | k + 1, x9, x10, x11 => (sprig_untilStep.f k x9 (wrap64 (x10 + x11)) x11).bind fun t127 => ((sprig_intArrayToString.f t127 (⟨#[32]⟩ : ByteArray)).bind fun t130 => (some t130))
end
def sprig_seq.f (k : Nat) (l0 : List Int) : Option (ByteArray) := if (l0.length : Int) = 0 then (some (⟨#[]⟩ : ByteArray)) else (if (l0.length : Int) = 1 then (if 0 < (l0.length : Int) then (if (rd l0 0) < 1 then (sprig_seq.j0 k (-1) 1 (rd l0 0)) else (sprig_seq.j0 k 1 1 (rd l0 0))) else (none)) else (if (l0.length : Int) = 3 then (if 0 < (l0.length : Int) then (if 2 < (l0.length : Int) then (if 1 < (l0.length : Int) then (if (rd l0 2) < (rd l0 0) then (if (rd l0 1) > 0 then (some (⟨#[]⟩ : ByteArray)) else (sprig_seq.j1 k (-1) (rd l0 0) (rd l0 2) (rd l0 1))) else (sprig_seq.j1 k 1 (rd l0 0) (rd l0 2) (rd l0 1))) else (none)) else (none)) else (none)) else (if (l0.length : Int) = 2 then (if 0 < (l0.length : Int) then (if 1 < (l0.length : Int) then (if (rd l0 1) < (rd l0 0) then (sprig_seq.j2 k (rd l0 0) (rd l0 1) (-1)) else (sprig_seq.j2 k (rd l0 0) (rd l0 1) 1)) else (none)) else (none)) else (some (⟨#[]⟩ : ByteArray)))))
theorem sprig_seq.mono_l : ∀ k, (∀ y0 y1 y2, LeO (sprig_seq.j0 k y0 y1 y2) (sprig_seq.j0 (k + 1) y0 y1 y2)) ∧ (∀ y0 y1 y2 y3, LeO (sprig_seq.j1 k y0 y1 y2 y3) (sprig_seq.j1 (k + 1) y0 y1 y2 y3)) ∧ (∀ y0 y1 y2, LeO (sprig_seq.j2 k y0 y1 y2) (sprig_seq.j2 (k + 1) y0 y1 y2))
  | 0 => ⟨fun _ _ _ r h => by simp [sprig_seq.j0] at h, fun _ _ _ _ r h => by simp [sprig_seq.j1] at h, fun _ _ _ r h => by simp [sprig_seq.j2] at h⟩
  | k + 1 => by
    obtain ⟨ih0, ih1, ih2⟩ := sprig_seq.mono_l k
    refine ⟨?_, ?_, ?_⟩
    · intro y0 y1 y2
      unfold sprig_seq.j0
      repeat' first
      | (with_reducible exact ih0 _ _ _)
      | (with_reducible exact ih1 _ _ _ _)
      | (with_reducible exact ih2 _ _ _)
      | (with_reducible exact sprig_untilStep.mono _ _ _ _)
      | (with_reducible exact LeO.refl _)
      | (with_reducible exact LeO.none _)
      | (with_reducible refine LeO.ite ?_ ?_)
      | (with_reducible refine LeO.bind ?_ (fun _ => ?_))
      | exact ih0 _ _ _
      | exact ih1 _ _ _ _
      | exact ih2 _ _ _
      | exact sprig_untilStep.mono _ _ _ _
      | exact LeO.none _
      | refine LeO.ite ?_ ?_
      | refine LeO.bind ?_ (fun _ => ?_)
    · intro y0 y1 y2 y3
      unfold sprig_seq.j1
      repeat' first
      | (with_reducible exact ih0 _ _ _)
      | (with_reducible exact ih1 _ _ _ _)
      | (with_reducible exact ih2 _ _ _)
      | (with_reducible exact sprig_untilStep.mono _ _ _ _)
      | (with_reducible exact LeO.refl _)
      | (with_reducible exact LeO.none _)
      | (with_reducible refine LeO.ite ?_ ?_)
      | (with_reducible refine LeO.bind ?_ (fun _ => ?_))
      | exact ih0 _ _ _
      | exact ih1 _ _ _ _
      | exact ih2 _ _ _
      | exact sprig_untilStep.mono _ _ _ _
      | exact LeO.none _
      | refine LeO.ite ?_ ?_
      | refine LeO.bind ?_ (fun _ => ?_)
    · intro y0 y1 y2
      unfold sprig_seq.j2
      repeat' first
      | (with_reducible exact ih0 _ _ _)
      | (with_reducible exact ih1 _ _ _ _)
      | (with_reducible exact ih2 _ _ _)
      | (with_reducible exact sprig_untilStep.mono _ _ _ _)
      | (with_reducible exact LeO.refl _)
      | (with_reducible exact LeO.none _)
      | (with_reducible refine LeO.ite ?_ ?_)
      | (with_reducible refine LeO.bind ?_ (fun _ => ?_))
      | exact ih0 _ _ _
      | exact ih1 _ _ _ _
      | exact ih2 _ _ _
      | exact sprig_untilStep.mono _ _ _ _
      | exact LeO.none _
      | refine LeO.ite ?_ ?_
      | refine LeO.bind ?_ (fun _ => ?_)
theorem sprig_seq.mono : ∀ a0 k, LeO (sprig_seq.f k a0) (sprig_seq.f (k + 1) a0) := by
  intro a0 k
  obtain ⟨ih0, ih1, ih2⟩ := sprig_seq.mono_l k
  unfold sprig_seq.f
  repeat' first
      | (with_reducible exact ih0 _ _ _)
      | (with_reducible exact ih1 _ _ _ _)
      | (with_reducible exact ih2 _ _ _)
      | (with_reducible exact sprig_untilStep.mono _ _ _ _)
      | (with_reducible exact LeO.refl _)
      | (with_reducible exact LeO.none _)
      | (with_reducible refine LeO.ite ?_ ?_)
      | (with_reducible refine LeO.bind ?_ (fun _ => ?_))
      | exact ih0 _ _ _
      | exact ih1 _ _ _ _
      | exact ih2 _ _ _
      | exact sprig_untilStep.mono _ _ _ _
      | exact LeO.none _
      | refine LeO.ite ?_ ?_
      | refine LeO.bind ?_ (fun _ => ?_)
set_option maxHeartbeats 8000000 in
set_option maxRecDepth 100000 in
theorem sprig_seq.calls (k : Nat) (A0 : Option Addr) (c0 : Nat) (l0 : List Int) (r : ByteArray) (w : World) (hr0 : Kd.C (Kd.int .i64) w A0 l0.length l0) (hc0 : l0.length ≤ c0) (h : sprig_seq.f k l0 = some r) (HT0W : TabsW w) :
    Calls Tryd.prog 60 #[.slice A0 l0.length c0] w fun e w' => e = .returned (.string r) ∧ Below w.heap.size w w' := by
  have HTW := Aside0.mk HT0W
  clear HT0W
  have HR0 := Aside0.mk hr0
  have HC0 := Aside0.mk hc0
  clear hr0 hc0
  have HB := Aside0.mk (Below.refl w.heap.size w)
  have H : (if (l0.length : Int) = 0 then (some (⟨#[]⟩ : ByteArray)) else (if (l0.length : Int) = 1 then (if 0 < (l0.length : Int) then (if (rd l0 0) < 1 then (sprig_seq.j0 k (-1) 1 (rd l0 0)) else (sprig_seq.j0 k 1 1 (rd l0 0))) else (none)) else (if (l0.length : Int) = 3 then (if 0 < (l0.length : Int) then (if 2 < (l0.length : Int) then (if 1 < (l0.length : Int) then (if (rd l0 2) < (rd l0 0) then (if (rd l0 1) > 0 then (some (⟨#[]⟩ : ByteArray)) else (sprig_seq.j1 k (-1) (rd l0 0) (rd l0 2) (rd l0 1))) else (sprig_seq.j1 k 1 (rd l0 0) (rd l0 2) (rd l0 1))) else (none)) else (none)) else (none)) else (if (l0.length : Int) = 2 then (if 0 < (l0.length : Int) then (if 1 < (l0.length : Int) then (if (rd l0 1) < (rd l0 0) then (sprig_seq.j2 k (rd l0 0) (rd l0 1) (-1)) else (sprig_seq.j2 k (rd l0 0) (rd l0 1) 1)) else (none)) else (none)) else (some (⟨#[]⟩ : ByteArray)))))) = some r := h
  clear h
  by_cases c2 : (l0.length : Int) = 0
  · rw [if_pos c2] at H
    have c2b0 : ((l0.length : Int) == 0) = true := beq_iff_eq.mpr c2
    have c2b1 : ((l0.length : Int) != 0) = false := bne_eq_false_iff_eq.mpr c2
    clear c2
    as_aux_lemma =>
      obtain rfl := Option.some.inj H
      go_enter Tryd.func60, Tryd.ntmps60
      go_wp2
      go_ret
      exact ⟨by first | rfl | (simp [errW_none, errW_some] <;> rfl) | (simp [*, errW_none, errW_some] <;> rfl), by repeat (first | (with_reducible first | exact HB.out | apply below_alloc | apply pw_below_drewN | apply below_drew1) | exact HB.out)⟩
  · rw [if_neg c2] at H
    have c2b0 : ((l0.length : Int) == 0) = false := beq_eq_false_iff_ne.mpr c2
    have c2b1 : ((l0.length : Int) != 0) = true := bne_iff_ne.mpr c2
    have c2b2 : ¬ (l0 = []) := fun h_ => c2 (by rw [h_]; rfl)
    by_cases c3 : (l0.length : Int) = 1
    · rw [if_pos c3] at H
      have c3b0 : ((l0.length : Int) == 1) = true := beq_iff_eq.mpr c3
      have c3b1 : ((l0.length : Int) != 1) = false := bne_eq_false_iff_eq.mpr c3
      clear c3
      by_cases c4 : 0 < (l0.length : Int)
      · rw [if_pos c4] at H
        have c4b0 : decide (0 < (l0.length : Int)) = true := decide_eq_true c4
        have c4b1 : decide (0 < l0.length) = true := decide_eq_true (by omega)
        clear c4
        have HC5 := Aside0.mk H
        clear H
        have p113 : 0 ≤ (0 : Int) := (by omega)
        have q113 : 0 < (l0.length : Int) := of_decide_eq_true (by first | (with_reducible assumption) | assumption)
        obtain ⟨ad113, e113, hx113_0⟩ := Kd.at_int HR0.out 0 p113 q113
        cases e113
        have qi113 : (0 < l0.length) = True := eq_true (by omega)
        (try rw [show ((0 : Int)).toNat = 0 from rfl] at hx113_0)
        (try rw [Addr.add_zero'] at hx113_0)
        replace p113 := eq_true p113
        replace q113 := eq_true q113
        go_enter Tryd.func60, Tryd.ntmps60
        go_upto_if 23 with (fail)
        go_cut [3] (fun v3 wc => ∃ (kq : Nat) (x3_4 : Int), v3 = .int .i64 x3_4 ∧ Aside0 (sprig_seq.j0 kq x3_4 1 (rd l0 0) = some r) ∧ Aside0 (kq ≤ k) ∧ Aside0 (Below w.heap.size w wc))
        case first =>
          have H := HC5.out
          clear HC5
          by_cases c6 : (rd l0 0) < 1
          · rw [if_pos c6] at H
            have c6b0 : decide ((rd l0 0) < 1) = true := decide_eq_true c6
            clear c6
            (first | rw [c6b0] | (simp only [i64_w, i32_w]; rw [c6b0]) | skip)
            as_aux_lemma =>
              have H' := Aside0.mk H
              clear H
              go_wp2
              go_meet
              case rel => exact ⟨_, ((-1)), (by first | rfl | (simp only [bytesLe_not]; done) | (simp; done) | (simp [*]; done)), H', ⟨by first | omega | exact Nat.le_refl _⟩, ⟨by repeat (first | (with_reducible first | exact HB.out | apply below_alloc | apply pw_below_drewN | apply below_drew1) | exact HB.out)⟩⟩
          · rw [if_neg c6] at H
            have c6b0 : decide ((rd l0 0) < 1) = false := decide_eq_false c6
            clear c6
            (first | rw [c6b0] | (simp only [i64_w, i32_w]; rw [c6b0]) | skip)
            as_aux_lemma =>
              have H' := Aside0.mk H
              clear H
              go_wp2
              go_meet
              case rel => exact ⟨_, (1), (by first | rfl | (simp only [bytesLe_not]; done) | (simp; done) | (simp [*]; done)), H', ⟨by first | omega | exact Nat.le_refl _⟩, ⟨by repeat (first | (with_reducible first | exact HB.out | apply below_alloc | apply pw_below_drewN | apply below_drew1) | exact HB.out)⟩⟩
        case rest =>
          clear HC5
          try clear p1
          try clear q1
          try clear hx1
          try clear qi1
          try clear c2
          try clear c2b0
          try clear c2b1
          try clear c2b2
          try clear p2
          try clear c3
          try clear c3b0
          try clear c3b1
          try clear c4
          try clear c4b0
          try clear c4b1
          try clear c6
          try clear c6b0
          try clear hx113_0
          try clear p113
          try clear q113
          obtain ⟨kq, x3_4, rfl, HA, HJ4, HB⟩ := hcut
          cases kq with
          | zero => exact absurd HA.out (by simp [sprig_seq.j0])
          | succ kj4 =>
            have H := HA.out
            clear HA
            simp only [sprig_seq.j0] at H
            replace H := Option.bind_eq_some_iff.mp H
            obtain ⟨t114, A70, H⟩ := H
            replace H : ((sprig_intArrayToString.f t114 (⟨#[32]⟩ : ByteArray)).bind fun t117 => (some t117)) = some r := H
            have A7 := Aside0.mk A70
            clear A70
            replace H := Option.bind_eq_some_iff.mp H
            obtain ⟨t117, A80, H⟩ := H
            replace H : (some t117) = some r := H
            have A8 := Aside0.mk A80
            clear A80
            as_aux_lemma =>
              obtain rfl := Option.some.inj H
              go_wp2_with (first | ((with_reducible refine gate_callee (f := 81) rfl ?_); refine goesL_ (some 29) rfl rfl Tryd.func81 (by kernel_rfl) rfl #[.int .i64 1, .int .i64 (wrap64 ((rd l0 0) + x3_4)), .int .i64 x3_4] rfl (by (try simp only [List.map_toArray, List.map_cons, List.map_nil]); first | done | rfl | (simp only [List.length_drop, List.length_take]; rfl)) ?_; (with_reducible refine (sprig_untilStep.calls kj4 1 (wrap64 ((rd l0 0) + x3_4)) x3_4 t114 _ A7.out).mono ?_); rintro e w9 ⟨v115, rfl, ho0, hb⟩; refine ⟨_, rfl, ?_⟩; have n0_ := Aside0.mk (Kd.R_lower ho0 (below_size (by repeat (first | (with_reducible first | exact HB.out | apply below_alloc | apply pw_below_drewN | apply below_drew1) | exact HB.out)))); have n1_ := Aside0.mk (below_step (by repeat (first | (with_reducible first | exact HB.out | apply below_alloc | apply pw_below_drewN | apply below_drew1) | exact HB.out)) hb); clear HB; have HO116 := n0_; have HB := n1_; clear n0_ n1_; (try clear hb); (try clear hb2); (try clear hk); (try clear hi); (try clear ho0); obtain ⟨Ao10, co10, eo10⟩ := Kd.R_slice HO116.out; subst eo10) | ((with_reducible refine gate_callee (f := 80) rfl ?_); refine goesL_ (some 30) rfl rfl Tryd.func80 (by kernel_rfl) rfl #[.slice Ao10 t114.length co10, .string (⟨#[32]⟩ : ByteArray)] rfl (by (try simp only [List.map_toArray, List.map_cons, List.map_nil]); first | done | rfl | (simp only [List.length_drop, List.length_take]; rfl)) ?_; (with_reducible refine (sprig_intArrayToString.calls _ _ t114 (⟨#[32]⟩ : ByteArray) t117 _ ?side1 ?side2 A8.out (TabsW.below HTW.out (by repeat (first | (with_reducible first | exact HB.out | apply below_alloc | apply pw_below_drewN | apply below_drew1) | exact HB.out)))).mono ?_); (case side1 => repeat (first | exact (Kd.R_reads' HO116.out).2.2 | (with_reducible refine Kd.C_alloc ?_ _) | (with_reducible refine Kd.C_drewN ?_ _) | (with_reducible refine Kd.C_drew ?_))); (case side2 => exact (Kd.R_reads' HO116.out).2.1); rintro e w11 ⟨rfl, hb⟩; refine ⟨_, rfl, ?_⟩; have n0_ := Aside0.mk (Kd.R_below (by (with_reducible repeat (first | apply Kd.R_alloc | apply Kd.R_drewN | apply Kd.R_drew)); exact HO116.out) hb); have n1_ := Aside0.mk (below_step (by repeat (first | (with_reducible first | exact HB.out | apply below_alloc | apply pw_below_drewN | apply below_drew1) | exact HB.out)) hb); clear HO116; clear HB; have HO116 := n0_; have HB := n1_; clear n0_ n1_; (try clear hb); (try clear hb2); (try clear hk); (try clear hi)))
              go_ret
              exact ⟨by first | rfl | (simp [errW_none, errW_some] <;> rfl) | (simp [*, errW_none, errW_some] <;> rfl), by repeat (first | (with_reducible first | exact HB.out | apply below_alloc | apply pw_below_drewN | apply below_drew1) | exact HB.out)⟩
      · rw [if_neg c4] at H
        exact absurd H (by simp)
    · rw [if_neg c3] at H
      have c3b0 : ((l0.length : Int) == 1) = false := beq_eq_false_iff_ne.mpr c3
      have c3b1 : ((l0.length : Int) != 1) = true := bne_iff_ne.mpr c3
      by_cases c12 : (l0.length : Int) = 3
      · rw [if_pos c12] at H
        have c12b0 : ((l0.length : Int) == 3) = true := beq_iff_eq.mpr c12
        have c12b1 : ((l0.length : Int) != 3) = false := bne_eq_false_iff_eq.mpr c12
        clear c12
        by_cases c13 : 0 < (l0.length : Int)
        · rw [if_pos c13] at H
          have c13b0 : decide (0 < (l0.length : Int)) = true := decide_eq_true c13
          have c13b1 : decide (0 < l0.length) = true := decide_eq_true (by omega)
          clear c13
          by_cases c14 : 2 < (l0.length : Int)
          · rw [if_pos c14] at H
            have c14b0 : decide (2 < (l0.length : Int)) = true := decide_eq_true c14
            have c14b1 : decide (2 < l0.length) = true := decide_eq_true (by omega)
            clear c14
            by_cases c15 : 1 < (l0.length : Int)
            · rw [if_pos c15] at H
              have c15b0 : decide (1 < (l0.length : Int)) = true := decide_eq_true c15
              have c15b1 : decide (1 < l0.length) = true := decide_eq_true (by omega)
              clear c15
              have HC16 := Aside0.mk H
              clear H
              have p118 : 0 ≤ (0 : Int) := (by omega)
              have q118 : 0 < (l0.length : Int) := of_decide_eq_true (by first | (with_reducible assumption) | assumption)
              obtain ⟨ad118, e118, hx118_0⟩ := Kd.at_int HR0.out 0 p118 q118
              cases e118
              have qi118 : (0 < l0.length) = True := eq_true (by omega)
              (try rw [show ((0 : Int)).toNat = 0 from rfl] at hx118_0)
              (try rw [Addr.add_zero'] at hx118_0)
              replace p118 := eq_true p118
              replace q118 := eq_true q118
              have p119 : 0 ≤ (2 : Int) := (by omega)
              have q119 : 2 < (l0.length : Int) := of_decide_eq_true (by first | (with_reducible assumption) | assumption)
              obtain ⟨ad119, e119, hx119_0⟩ := Kd.at_int HR0.out 2 p119 q119
              obtain rfl : ad118 = ad119 := (by injection e119)
              (try simp only [show (2 : Int).toNat = 2 from rfl, Nat.reduceMul, Nat.reduceEqDiff, Go.Addr.add, ↓reduceIte] at hx119_0)
              have qi119 : (2 < l0.length) = True := eq_true (by omega)
              (try rw [show ((2 : Int)).toNat = 2 from rfl] at hx119_0)
              replace p119 := eq_true p119
              replace q119 := eq_true q119
              have p120 : 0 ≤ (1 : Int) := (by omega)
              have q120 : 1 < (l0.length : Int) := of_decide_eq_true (by first | (with_reducible assumption) | assumption)
              obtain ⟨ad120, e120, hx120_0⟩ := Kd.at_int HR0.out 1 p120 q120
              obtain rfl : ad118 = ad120 := (by injection e120)
              (try simp only [show (1 : Int).toNat = 1 from rfl, Nat.reduceMul, Nat.reduceEqDiff, Go.Addr.add, ↓reduceIte] at hx120_0)
              have qi120 : (1 < l0.length) = True := eq_true (by omega)
              (try rw [show ((1 : Int)).toNat = 1 from rfl] at hx120_0)
              replace p120 := eq_true p120
              replace q120 := eq_true q120
              go_enter Tryd.func60, Tryd.ntmps60
              go_upto_if 44 with (fail)
              go_cut [3] (fun v3 wc => ∃ (kq : Nat) (x3_15 : Int), v3 = .int .i64 x3_15 ∧ Aside0 (sprig_seq.j1 kq x3_15 (rd l0 0) (rd l0 2) (rd l0 1) = some r) ∧ Aside0 (kq ≤ k) ∧ Aside0 (Below w.heap.size w wc))
              case first =>
                have H := HC16.out
                clear HC16
                by_cases c17 : (rd l0 2) < (rd l0 0)
                · rw [if_pos c17] at H
                  have c17b0 : decide ((rd l0 2) < (rd l0 0)) = true := decide_eq_true c17
                  clear c17
                  (first | rw [c17b0] | (simp only [i64_w, i32_w]; rw [c17b0]) | skip)
                  by_cases c18 : (rd l0 1) > 0
                  · rw [if_pos c18] at H
                    have c18b0 : decide (0 < (rd l0 1)) = true := decide_eq_true c18
                    clear c18
                    as_aux_lemma =>
                      obtain rfl := Option.some.inj H
                      go_wp2
                      go_ret
                      exact ⟨by first | rfl | (simp [errW_none, errW_some] <;> rfl) | (simp [*, errW_none, errW_some] <;> rfl), by repeat (first | (with_reducible first | exact HB.out | apply below_alloc | apply pw_below_drewN | apply below_drew1) | exact HB.out)⟩
                  · rw [if_neg c18] at H
                    have c18b0 : decide (0 < (rd l0 1)) = false := decide_eq_false c18
                    clear c18
                    as_aux_lemma =>
                      have H' := Aside0.mk H
                      clear H
                      go_wp2
                      go_meet
                      case rel => exact ⟨_, ((-1)), (by first | rfl | (simp only [bytesLe_not]; done) | (simp; done) | (simp [*]; done)), H', ⟨by first | omega | exact Nat.le_refl _⟩, ⟨by repeat (first | (with_reducible first | exact HB.out | apply below_alloc | apply pw_below_drewN | apply below_drew1) | exact HB.out)⟩⟩
                · rw [if_neg c17] at H
                  have c17b0 : decide ((rd l0 2) < (rd l0 0)) = false := decide_eq_false c17
                  clear c17
                  (first | rw [c17b0] | (simp only [i64_w, i32_w]; rw [c17b0]) | skip)
                  as_aux_lemma =>
                    have H' := Aside0.mk H
                    clear H
                    go_wp2
                    go_meet
                    case rel => exact ⟨_, (1), (by first | rfl | (simp only [bytesLe_not]; done) | (simp; done) | (simp [*]; done)), H', ⟨by first | omega | exact Nat.le_refl _⟩, ⟨by repeat (first | (with_reducible first | exact HB.out | apply below_alloc | apply pw_below_drewN | apply below_drew1) | exact HB.out)⟩⟩
              case rest =>
                clear HC16
                try clear c1
                try clear p1
                try clear q1
                try clear hx1
                try clear qi1
                try clear c2
                try clear c2b0
                try clear c2b1
                try clear c2b2
                try clear p2
                try clear c3
                try clear c3b0
                try clear c3b1
                try clear c4
                try clear c4b0
                try clear c4b1
                try clear c6
                try clear c6b0
                try clear p6
                try clear c8
                try clear p11
                try clear q11
                try clear hx11
                try clear qi11
                try clear c12
                try clear c12b0
                try clear c12b1
                try clear p12
                try clear q12
                try clear hx12
                try clear qi12
                try clear c13
                try clear c13b0
                try clear c13b1
                try clear c14
                try clear c14b0
                try clear c14b1
                try clear c15
                try clear c15b0
                try clear c15b1
                try clear c17
                try clear c17b0
                try clear c18
                try clear c18b0
                try clear hx113_0
                try clear hx118_0
                try clear hx119_0
                try clear hx120_0
                try clear p1
                try clear p113
                try clear p118
                try clear p119
                try clear p120
                try clear p2
                try clear q1
                try clear q113
                try clear q118
                try clear q119
                try clear q120
                obtain ⟨kq, x3_15, rfl, HA, HJ15, HB⟩ := hcut
                cases kq with
                | zero => exact absurd HA.out (by simp [sprig_seq.j1])
                | succ kj15 =>
                  have H := HA.out
                  clear HA
                  simp only [sprig_seq.j1] at H
                  replace H := Option.bind_eq_some_iff.mp H
                  obtain ⟨t121, A190, H⟩ := H
                  replace H : ((sprig_intArrayToString.f t121 (⟨#[32]⟩ : ByteArray)).bind fun t124 => (some t124)) = some r := H
                  have A19 := Aside0.mk A190
                  clear A190
                  replace H := Option.bind_eq_some_iff.mp H
                  obtain ⟨t124, A200, H⟩ := H
                  replace H : (some t124) = some r := H
                  have A20 := Aside0.mk A200
                  clear A200
                  as_aux_lemma =>
                    obtain rfl := Option.some.inj H
                    go_wp2_with (first | ((with_reducible refine gate_callee (f := 81) rfl ?_); refine goesL_ (some 52) rfl rfl Tryd.func81 (by kernel_rfl) rfl #[.int .i64 (rd l0 0), .int .i64 (wrap64 ((rd l0 2) + x3_15)), .int .i64 (rd l0 1)] rfl (by (try simp only [List.map_toArray, List.map_cons, List.map_nil]); first | done | rfl | (simp only [List.length_drop, List.length_take]; rfl)) ?_; (with_reducible refine (sprig_untilStep.calls kj15 (rd l0 0) (wrap64 ((rd l0 2) + x3_15)) (rd l0 1) t121 _ A19.out).mono ?_); rintro e w21 ⟨v122, rfl, ho0, hb⟩; refine ⟨_, rfl, ?_⟩; have n0_ := Aside0.mk (Kd.R_lower ho0 (below_size (by repeat (first | (with_reducible first | exact HB.out | apply below_alloc | apply pw_below_drewN | apply below_drew1) | exact HB.out)))); have n1_ := Aside0.mk (below_step (by repeat (first | (with_reducible first | exact HB.out | apply below_alloc | apply pw_below_drewN | apply below_drew1) | exact HB.out)) hb); clear HB; have HO123 := n0_; have HB := n1_; clear n0_ n1_; (try clear hb); (try clear hb2); (try clear hk); (try clear hi); (try clear ho0); obtain ⟨Ao22, co22, eo22⟩ := Kd.R_slice HO123.out; subst eo22) | ((with_reducible refine gate_callee (f := 80) rfl ?_); refine goesL_ (some 53) rfl rfl Tryd.func80 (by kernel_rfl) rfl #[.slice Ao22 t121.length co22, .string (⟨#[32]⟩ : ByteArray)] rfl (by (try simp only [List.map_toArray, List.map_cons, List.map_nil]); first | done | rfl | (simp only [List.length_drop, List.length_take]; rfl)) ?_; (with_reducible refine (sprig_intArrayToString.calls _ _ t121 (⟨#[32]⟩ : ByteArray) t124 _ ?side1 ?side2 A20.out (TabsW.below HTW.out (by repeat (first | (with_reducible first | exact HB.out | apply below_alloc | apply pw_below_drewN | apply below_drew1) | exact HB.out)))).mono ?_); (case side1 => repeat (first | exact (Kd.R_reads' HO123.out).2.2 | (with_reducible refine Kd.C_alloc ?_ _) | (with_reducible refine Kd.C_drewN ?_ _) | (with_reducible refine Kd.C_drew ?_))); (case side2 => exact (Kd.R_reads' HO123.out).2.1); rintro e w23 ⟨rfl, hb⟩; refine ⟨_, rfl, ?_⟩; have n0_ := Aside0.mk (Kd.R_below (by (with_reducible repeat (first | apply Kd.R_alloc | apply Kd.R_drewN | apply Kd.R_drew)); exact HO123.out) hb); have n1_ := Aside0.mk (below_step (by repeat (first | (with_reducible first | exact HB.out | apply below_alloc | apply pw_below_drewN | apply below_drew1) | exact HB.out)) hb); clear HO123; clear HB; have HO123 := n0_; have HB := n1_; clear n0_ n1_; (try clear hb); (try clear hb2); (try clear hk); (try clear hi)))
                    go_ret
                    exact ⟨by first | rfl | (simp [errW_none, errW_some] <;> rfl) | (simp [*, errW_none, errW_some] <;> rfl), by repeat (first | (with_reducible first | exact HB.out | apply below_alloc | apply pw_below_drewN | apply below_drew1) | exact HB.out)⟩
            · rw [if_neg c15] at H
              exact absurd H (by simp)
          · rw [if_neg c14] at H
            exact absurd H (by simp)
        · rw [if_neg c13] at H
          exact absurd H (by simp)
      · rw [if_neg c12] at H
        have c12b0 : ((l0.length : Int) == 3) = false := beq_eq_false_iff_ne.mpr c12
        have c12b1 : ((l0.length : Int) != 3) = true := bne_iff_ne.mpr c12
        by_cases c24 : (l0.length : Int) = 2
        · rw [if_pos c24] at H
          have c24b0 : ((l0.length : Int) == 2) = true := beq_iff_eq.mpr c24
          have c24b1 : ((l0.length : Int) != 2) = false := bne_eq_false_iff_eq.mpr c24
          clear c24
          by_cases c25 : 0 < (l0.length : Int)
          · rw [if_pos c25] at H
            have c25b0 : decide (0 < (l0.length : Int)) = true := decide_eq_true c25
            have c25b1 : decide (0 < l0.length) = true := decide_eq_true (by omega)
            clear c25
            by_cases c26 : 1 < (l0.length : Int)
            · rw [if_pos c26] at H
              have c26b0 : decide (1 < (l0.length : Int)) = true := decide_eq_true c26
              have c26b1 : decide (1 < l0.length) = true := decide_eq_true (by omega)
              clear c26
              have HC27 := Aside0.mk H
              clear H
              have p125 : 0 ≤ (0 : Int) := (by omega)
              have q125 : 0 < (l0.length : Int) := of_decide_eq_true (by first | (with_reducible assumption) | assumption)
              obtain ⟨ad125, e125, hx125_0⟩ := Kd.at_int HR0.out 0 p125 q125
              cases e125
              have qi125 : (0 < l0.length) = True := eq_true (by omega)
              (try rw [show ((0 : Int)).toNat = 0 from rfl] at hx125_0)
              (try rw [Addr.add_zero'] at hx125_0)
              replace p125 := eq_true p125
              replace q125 := eq_true q125
              have p126 : 0 ≤ (1 : Int) := (by omega)
              have q126 : 1 < (l0.length : Int) := of_decide_eq_true (by first | (with_reducible assumption) | assumption)
              obtain ⟨ad126, e126, hx126_0⟩ := Kd.at_int HR0.out 1 p126 q126
              obtain rfl : ad125 = ad126 := (by injection e126)
              (try simp only [show (1 : Int).toNat = 1 from rfl, Nat.reduceMul, Nat.reduceEqDiff, Go.Addr.add, ↓reduceIte] at hx126_0)
              have qi126 : (1 < l0.length) = True := eq_true (by omega)
              (try rw [show ((1 : Int)).toNat = 1 from rfl] at hx126_0)
              replace p126 := eq_true p126
              replace q126 := eq_true q126
              go_enter Tryd.func60, Tryd.ntmps60
              go_upto_if 64 with (fail)
              go_cut [11] (fun v11 wc => ∃ (kq : Nat) (x11_26 : Int), v11 = .int .i64 x11_26 ∧ Aside0 (sprig_seq.j2 kq (rd l0 0) (rd l0 1) x11_26 = some r) ∧ Aside0 (kq ≤ k) ∧ Aside0 (Below w.heap.size w wc))
              case first =>
                have H := HC27.out
                clear HC27
                by_cases c28 : (rd l0 1) < (rd l0 0)
                · rw [if_pos c28] at H
                  have c28b0 : decide ((rd l0 1) < (rd l0 0)) = true := decide_eq_true c28
                  clear c28
                  (first | rw [c28b0] | (simp only [i64_w, i32_w]; rw [c28b0]) | skip)
                  as_aux_lemma =>
                    have H' := Aside0.mk H
                    clear H
                    go_wp2
                    go_meet
                    case rel => exact ⟨_, ((-1)), (by first | rfl | (simp only [bytesLe_not]; done) | (simp; done) | (simp [*]; done)), H', ⟨by first | omega | exact Nat.le_refl _⟩, ⟨by repeat (first | (with_reducible first | exact HB.out | apply below_alloc | apply pw_below_drewN | apply below_drew1) | exact HB.out)⟩⟩
                · rw [if_neg c28] at H
                  have c28b0 : decide ((rd l0 1) < (rd l0 0)) = false := decide_eq_false c28
                  clear c28
                  (first | rw [c28b0] | (simp only [i64_w, i32_w]; rw [c28b0]) | skip)
                  as_aux_lemma =>
                    have H' := Aside0.mk H
                    clear H
                    go_wp2
                    go_meet
                    case rel => exact ⟨_, (1), (by first | rfl | (simp only [bytesLe_not]; done) | (simp; done) | (simp [*]; done)), H', ⟨by first | omega | exact Nat.le_refl _⟩, ⟨by repeat (first | (with_reducible first | exact HB.out | apply below_alloc | apply pw_below_drewN | apply below_drew1) | exact HB.out)⟩⟩
              case rest =>
                clear HC27
                try clear c1
                try clear p1
                try clear q1
                try clear hx1
                try clear qi1
                try clear c2
                try clear c2b0
                try clear c2b1
                try clear c2b2
                try clear p2
                try clear c3
                try clear c3b0
                try clear c3b1
                try clear c4
                try clear c4b0
                try clear c4b1
                try clear c6
                try clear c6b0
                try clear p6
                try clear c8
                try clear p11
                try clear q11
                try clear hx11
                try clear qi11
                try clear c12
                try clear c12b0
                try clear c12b1
                try clear p12
                try clear q12
                try clear hx12
                try clear qi12
                try clear c13
                try clear c13b0
                try clear c13b1
                try clear c14
                try clear c14b0
                try clear c14b1
                try clear c15
                try clear c15b0
                try clear c15b1
                try clear c17
                try clear c17b0
                try clear c18
                try clear c18b0
                try clear c24
                try clear c24b0
                try clear c24b1
                try clear c25
                try clear c25b0
                try clear c25b1
                try clear c26
                try clear c26b0
                try clear c26b1
                try clear c28
                try clear c28b0
                try clear hx113_0
                try clear hx118_0
                try clear hx119_0
                try clear hx120_0
                try clear hx125_0
                try clear hx126_0
                try clear p1
                try clear p11
                try clear p113
                try clear p118
                try clear p119
                try clear p12
                try clear p120
                try clear p125
                try clear p126
                try clear p2
                try clear p6
                try clear q1
                try clear q11
                try clear q113
                try clear q118
                try clear q119
                try clear q12
                try clear q120
                try clear q125
                try clear q126
                obtain ⟨kq, x11_26, rfl, HA, HJ26, HB⟩ := hcut
                cases kq with
                | zero => exact absurd HA.out (by simp [sprig_seq.j2])
                | succ kj26 =>
                  have H := HA.out
                  clear HA
                  simp only [sprig_seq.j2] at H
                  replace H := Option.bind_eq_some_iff.mp H
                  obtain ⟨t127, A290, H⟩ := H
                  replace H : ((sprig_intArrayToString.f t127 (⟨#[32]⟩ : ByteArray)).bind fun t130 => (some t130)) = some r := H
                  have A29 := Aside0.mk A290
                  clear A290
                  replace H := Option.bind_eq_some_iff.mp H
                  obtain ⟨t130, A300, H⟩ := H
                  replace H : (some t130) = some r := H
                  have A30 := Aside0.mk A300
                  clear A300
                  as_aux_lemma =>
                    obtain rfl := Option.some.inj H
                    go_wp2_with (first | ((with_reducible refine gate_callee (f := 81) rfl ?_); refine goesL_ (some 70) rfl rfl Tryd.func81 (by kernel_rfl) rfl #[.int .i64 (rd l0 0), .int .i64 (wrap64 ((rd l0 1) + x11_26)), .int .i64 x11_26] rfl (by (try simp only [List.map_toArray, List.map_cons, List.map_nil]); first | done | rfl | (simp only [List.length_drop, List.length_take]; rfl)) ?_; (with_reducible refine (sprig_untilStep.calls kj26 (rd l0 0) (wrap64 ((rd l0 1) + x11_26)) x11_26 t127 _ A29.out).mono ?_); rintro e w31 ⟨v128, rfl, ho0, hb⟩; refine ⟨_, rfl, ?_⟩; have n0_ := Aside0.mk (Kd.R_lower ho0 (below_size (by repeat (first | (with_reducible first | exact HB.out | apply below_alloc | apply pw_below_drewN | apply below_drew1) | exact HB.out)))); have n1_ := Aside0.mk (below_step (by repeat (first | (with_reducible first | exact HB.out | apply below_alloc | apply pw_below_drewN | apply below_drew1) | exact HB.out)) hb); clear HB; have HO129 := n0_; have HB := n1_; clear n0_ n1_; (try clear hb); (try clear hb2); (try clear hk); (try clear hi); (try clear ho0); obtain ⟨Ao32, co32, eo32⟩ := Kd.R_slice HO129.out; subst eo32) | ((with_reducible refine gate_callee (f := 80) rfl ?_); refine goesL_ (some 71) rfl rfl Tryd.func80 (by kernel_rfl) rfl #[.slice Ao32 t127.length co32, .string (⟨#[32]⟩ : ByteArray)] rfl (by (try simp only [List.map_toArray, List.map_cons, List.map_nil]); first | done | rfl | (simp only [List.length_drop, List.length_take]; rfl)) ?_; (with_reducible refine (sprig_intArrayToString.calls _ _ t127 (⟨#[32]⟩ : ByteArray) t130 _ ?side1 ?side2 A30.out (TabsW.below HTW.out (by repeat (first | (with_reducible first | exact HB.out | apply below_alloc | apply pw_below_drewN | apply below_drew1) | exact HB.out)))).mono ?_); (case side1 => repeat (first | exact (Kd.R_reads' HO129.out).2.2 | (with_reducible refine Kd.C_alloc ?_ _) | (with_reducible refine Kd.C_drewN ?_ _) | (with_reducible refine Kd.C_drew ?_))); (case side2 => exact (Kd.R_reads' HO129.out).2.1); rintro e w33 ⟨rfl, hb⟩; refine ⟨_, rfl, ?_⟩; have n0_ := Aside0.mk (Kd.R_below (by (with_reducible repeat (first | apply Kd.R_alloc | apply Kd.R_drewN | apply Kd.R_drew)); exact HO129.out) hb); have n1_ := Aside0.mk (below_step (by repeat (first | (with_reducible first | exact HB.out | apply below_alloc | apply pw_below_drewN | apply below_drew1) | exact HB.out)) hb); clear HO129; clear HB; have HO129 := n0_; have HB := n1_; clear n0_ n1_; (try clear hb); (try clear hb2); (try clear hk); (try clear hi)))
                    go_ret
                    exact ⟨by first | rfl | (simp [errW_none, errW_some] <;> rfl) | (simp [*, errW_none, errW_some] <;> rfl), by repeat (first | (with_reducible first | exact HB.out | apply below_alloc | apply pw_below_drewN | apply below_drew1) | exact HB.out)⟩
            · rw [if_neg c26] at H
              exact absurd H (by simp)
          · rw [if_neg c25] at H
            exact absurd H (by simp)
        · rw [if_neg c24] at H
          have c24b0 : ((l0.length : Int) == 2) = false := beq_eq_false_iff_ne.mpr c24
          have c24b1 : ((l0.length : Int) != 2) = true := bne_iff_ne.mpr c24
          as_aux_lemma =>
            obtain rfl := Option.some.inj H
            go_enter Tryd.func60, Tryd.ntmps60
            go_wp2
            go_ret
            exact ⟨by first | rfl | (simp [errW_none, errW_some] <;> rfl) | (simp [*, errW_none, errW_some] <;> rfl), by repeat (first | (with_reducible first | exact HB.out | apply below_alloc | apply pw_below_drewN | apply below_drew1) | exact HB.out)⟩

/-! ### sprig_Seq: function 44 -/
def sprig_Seq.f (k : Nat) (l0 : List Int) : Option (ByteArray) := (sprig_seq.f k l0).bind fun t131 => (some t131)
theorem sprig_Seq.mono : ∀ a0 k, LeO (sprig_Seq.f k a0) (sprig_Seq.f (k + 1) a0) := by
  intro a0 k
  unfold sprig_Seq.f
  repeat' first
      | (with_reducible exact sprig_seq.mono _ _)
      | (with_reducible exact LeO.refl _)
      | (with_reducible exact LeO.none _)
      | (with_reducible refine LeO.ite ?_ ?_)
      | (with_reducible refine LeO.bind ?_ (fun _ => ?_))
      | exact sprig_seq.mono _ _
      | exact LeO.none _
      | refine LeO.ite ?_ ?_
      | refine LeO.bind ?_ (fun _ => ?_)
set_option maxHeartbeats 8000000 in
set_option maxRecDepth 100000 in
theorem sprig_Seq.calls (k : Nat) (A0 : Option Addr) (c0 : Nat) (l0 : List Int) (r : ByteArray) (w : World) (hr0 : Kd.C (Kd.int .i64) w A0 l0.length l0) (hc0 : l0.length ≤ c0) (h : sprig_Seq.f k l0 = some r) (HT0W : TabsW w) :
    Calls Tryd.prog 44 #[.slice A0 l0.length c0] w fun e w' => e = .returned (.string r) ∧ Below w.heap.size w w' := by
  have HTW := Aside0.mk HT0W
  clear HT0W
  have HR0 := Aside0.mk hr0
  have HC0 := Aside0.mk hc0
  clear hr0 hc0
  have HB := Aside0.mk (Below.refl w.heap.size w)
  have H : ((sprig_seq.f k l0).bind fun t131 => (some t131)) = some r := h
  clear h
  replace H := Option.bind_eq_some_iff.mp H
  obtain ⟨t131, A20, H⟩ := H
  replace H : (some t131) = some r := H
  have A2 := Aside0.mk A20
  clear A20
  as_aux_lemma =>
    obtain rfl := Option.some.inj H
    go_enter Tryd.func44, Tryd.ntmps44
    go_wp2_with (first | ((with_reducible refine gate_callee (f := 60) rfl ?_); refine goesL_ (some 4) rfl rfl Tryd.func60 (by kernel_rfl) rfl #[.slice A0 l0.length c0] rfl (by (try simp only [List.map_toArray, List.map_cons, List.map_nil]); first | done | rfl | (simp only [List.length_drop, List.length_take]; rfl)) ?_; (with_reducible refine (sprig_seq.calls k _ _ l0 t131 _ ?side1 ?side2 A2.out (TabsW.below HTW.out (by repeat (first | (with_reducible first | exact HB.out | apply below_alloc | apply pw_below_drewN | apply below_drew1) | exact HB.out)))).mono ?_); (case side1 => repeat (first | exact HR0.out | (with_reducible refine Kd.C_alloc ?_ _) | (with_reducible refine Kd.C_drewN ?_ _) | (with_reducible refine Kd.C_drew ?_))); (case side2 => exact HC0.out); rintro e w3 ⟨rfl, hb⟩; refine ⟨_, rfl, ?_⟩; have n0_ := Aside0.mk (below_step (by repeat (first | (with_reducible first | exact HB.out | apply below_alloc | apply pw_below_drewN | apply below_drew1) | exact HB.out)) hb); clear HB; have HB := n0_; clear n0_; (try clear hb); (try clear hb2); (try clear hk); (try clear hi)))
    go_ret
    exact ⟨by first | rfl | (simp [errW_none, errW_some] <;> rfl) | (simp [*, errW_none, errW_some] <;> rfl), by repeat (first | (with_reducible first | exact HB.out | apply below_alloc | apply pw_below_drewN | apply below_drew1) | exact HB.out)⟩

end Go.Proofs.YtjpibaehpmkdmaaDoor.P
