-- WRITTEN by xprint.py (a program of this session, over the kit's print) out of the translation. Not trusted: Lean checks it.
import Derived.Test.YtffkinonnkbcpaaPx0
namespace Go.Proofs.Ytffkinonnkbcpaa.P
open Go.RowKit Go.Proofs.YtffkinonnkbcpaaW.PrintWords Go.Proofs.YtffkinonnkbcpaaW.PrintLast Go.Proofs.YtffkinonnkbcpaaW.PrintMore
attribute [local go_sem] max2_int min2_int max_two min_two max_three min_three max_four min_four run_store_float   -- for this text's walks alone
set_option linter.unusedVariables false
set_option linter.unusedSimpArgs false

/-! ### spec_weigh: function 16 -/
mutual
def spec_weigh.j0 : Nat → Int → Int → Bool → Int → Int → Nat → ByteArray → List ByteArray → List (S31) → Option (Int)
  | 0, _, _, _, _, _, _, _, _, _ => none
  | k + 1, x1, x2, x22, x102000, x102001, x102002, x102003, x102004, x102005 => if x22 = true then (some (-1)) else (spec_weigh.l0 k x1 x2 0 x102000 x102001 x102002 x102003 x102004 x102005)
def spec_weigh.l0 : Nat → Int → Int → Int → Int → Int → Nat → ByteArray → List ByteArray → List (S31) → Option (Int)
  | 0, _, _, _, _, _, _, _, _, _ => none
  | k + 1, x1, x2, x7, x102000, x102001, x102002, x102003, x102004, x102005 => if x7 < (x102005.length : Int) then (if x1 ≥ 0 then (if 0 ≤ x7 then ((spec_weigh.f k ((rd_T31 x102005 x7).f0) ((rd_T31 x102005 x7).f1) ((rd_T31 x102005 x7).f2) ((rd_T31 x102005 x7).f3) ((rd_T31 x102005 x7).f4) ((rd_T31 x102005 x7).f5) x1 (wrap64 (x2 - 1))).bind fun t103 => (spec_weigh.l0 k t103 x2 (wrap64 (x7 + 1)) x102000 x102001 x102002 x102003 x102004 x102005)) else (none)) else (some x1)) else (some x1)
def spec_weigh.f : Nat → Int → Int → Nat → ByteArray → List ByteArray → List (S31) → Int → Int → Option (Int)
  | 0, _, _, _, _, _, _, _, _ => none
  | k + 1, a0_0, a0_1, a0_2, a0_3, l0_4, l0_5, a1, a2 => if (wrap64 (a1 - 1)) < 0 then (spec_weigh.j0 k (wrap64 (a1 - 1)) a2 true a0_0 a0_1 a0_2 a0_3 l0_4 l0_5) else (if a2 = 0 then (spec_weigh.j0 k (wrap64 (a1 - 1)) a2 true a0_0 a0_1 a0_2 a0_3 l0_4 l0_5) else (spec_weigh.j0 k (wrap64 (a1 - 1)) a2 (decide ((l0_5.length : Int) > (wrap64 (a1 - 1)))) a0_0 a0_1 a0_2 a0_3 l0_4 l0_5))
end
theorem spec_weigh.mono_l : ∀ k, (∀ y0 y1 y2 y3 y4 y5 y6 y7, LeO (spec_weigh.f k y0 y1 y2 y3 y4 y5 y6 y7) (spec_weigh.f (k + 1) y0 y1 y2 y3 y4 y5 y6 y7)) ∧ (∀ y0 y1 y2 y3 y4 y5 y6 y7 y8, LeO (spec_weigh.j0 k y0 y1 y2 y3 y4 y5 y6 y7 y8) (spec_weigh.j0 (k + 1) y0 y1 y2 y3 y4 y5 y6 y7 y8)) ∧ (∀ y0 y1 y2 y3 y4 y5 y6 y7 y8, LeO (spec_weigh.l0 k y0 y1 y2 y3 y4 y5 y6 y7 y8) (spec_weigh.l0 (k + 1) y0 y1 y2 y3 y4 y5 y6 y7 y8))
  | 0 => ⟨fun _ _ _ _ _ _ _ _ r h => by simp [spec_weigh.f] at h, fun _ _ _ _ _ _ _ _ _ r h => by simp [spec_weigh.j0] at h, fun _ _ _ _ _ _ _ _ _ r h => by simp [spec_weigh.l0] at h⟩
  | k + 1 => by
    obtain ⟨ih0, ih1, ih2⟩ := spec_weigh.mono_l k
    refine ⟨?_, ?_, ?_⟩
    · intro y0 y1 y2 y3 y4 y5 y6 y7
      unfold spec_weigh.f
      repeat' first
      | (with_reducible exact ih0 _ _ _ _ _ _ _ _)
      | (with_reducible exact ih1 _ _ _ _ _ _ _ _ _)
      | (with_reducible exact ih2 _ _ _ _ _ _ _ _ _)
      | (with_reducible exact LeO.refl _)
      | (with_reducible exact LeO.none _)
      | (with_reducible refine LeO.ite ?_ ?_)
      | (with_reducible refine LeO.bind ?_ (fun _ => ?_))
      | exact ih0 _ _ _ _ _ _ _ _
      | exact ih1 _ _ _ _ _ _ _ _ _
      | exact ih2 _ _ _ _ _ _ _ _ _
      | exact LeO.none _
      | refine LeO.ite ?_ ?_
      | refine LeO.bind ?_ (fun _ => ?_)
    · intro y0 y1 y2 y3 y4 y5 y6 y7 y8
      unfold spec_weigh.j0
      repeat' first
      | (with_reducible exact ih0 _ _ _ _ _ _ _ _)
      | (with_reducible exact ih1 _ _ _ _ _ _ _ _ _)
      | (with_reducible exact ih2 _ _ _ _ _ _ _ _ _)
      | (with_reducible exact LeO.refl _)
      | (with_reducible exact LeO.none _)
      | (with_reducible refine LeO.ite ?_ ?_)
      | (with_reducible refine LeO.bind ?_ (fun _ => ?_))
      | exact ih0 _ _ _ _ _ _ _ _
      | exact ih1 _ _ _ _ _ _ _ _ _
      | exact ih2 _ _ _ _ _ _ _ _ _
      | exact LeO.none _
      | refine LeO.ite ?_ ?_
      | refine LeO.bind ?_ (fun _ => ?_)
    · intro y0 y1 y2 y3 y4 y5 y6 y7 y8
      unfold spec_weigh.l0
      repeat' first
      | (with_reducible exact ih0 _ _ _ _ _ _ _ _)
      | (with_reducible exact ih1 _ _ _ _ _ _ _ _ _)
      | (with_reducible exact ih2 _ _ _ _ _ _ _ _ _)
      | (with_reducible exact LeO.refl _)
      | (with_reducible exact LeO.none _)
      | (with_reducible refine LeO.ite ?_ ?_)
      | (with_reducible refine LeO.bind ?_ (fun _ => ?_))
      | exact ih0 _ _ _ _ _ _ _ _
      | exact ih1 _ _ _ _ _ _ _ _ _
      | exact ih2 _ _ _ _ _ _ _ _ _
      | exact LeO.none _
      | refine LeO.ite ?_ ?_
      | refine LeO.bind ?_ (fun _ => ?_)
theorem spec_weigh.mono : ∀ a0 a1 a2 a3 a4 a5 a6 a7 k, LeO (spec_weigh.f k a0 a1 a2 a3 a4 a5 a6 a7) (spec_weigh.f (k + 1) a0 a1 a2 a3 a4 a5 a6 a7) := by
  intro a0 a1 a2 a3 a4 a5 a6 a7 k
  obtain ⟨ih0, ih1, ih2⟩ := spec_weigh.mono_l k
  exact ih0 a0 a1 a2 a3 a4 a5 a6 a7
set_option maxHeartbeats 8000000 in
set_option maxRecDepth 100000 in
theorem spec_weigh.calls (k : Nat) : ∀ (a0_0 : Int) (a0_1 : Int) (a0_2 : Nat) (a0_3 : ByteArray) (A0_4 : Option Addr) (c0_4 : Nat) (l0_4 : List ByteArray) (A0_5 : Option Addr) (c0_5 : Nat) (l0_5 : List (S31)) (a1 : Int) (a2 : Int) (r : Int) (w : World) (hr0_4 : Kd.C Kd.string w A0_4 l0_4.length l0_4) (hc0_4 : l0_4.length ≤ c0_4) (hr0_5 : Kd.C k31 w A0_5 l0_5.length l0_5) (hc0_5 : l0_5.length ≤ c0_5) (h : spec_weigh.f k a0_0 a0_1 a0_2 a0_3 l0_4 l0_5 a1 a2 = some r),
    Calls Try.prog 16 #[.agg #[.int .i64 a0_0, .int .i64 a0_1, .float .f64 a0_2, .string a0_3, .slice A0_4 l0_4.length c0_4, .slice A0_5 l0_5.length c0_5], .int .i64 a1, .int .i64 a2] w fun e w' => e = .returned (.int .i64 r) ∧ Below w.heap.size w w' := by
  induction k using Nat.strongRecOn with
  | _ k ih =>
  intro a0_0 a0_1 a0_2 a0_3 A0_4 c0_4 l0_4 A0_5 c0_5 l0_5 a1 a2 r w hr0_4 hc0_4 hr0_5 hc0_5 h
  cases k with
  | zero => exact absurd h (by simp [spec_weigh.f])
  | succ k =>
  simp only [spec_weigh.f] at h
  have hu31 := Try.underlying31
  have HR0_4 := Aside0.mk hr0_4
  have HC0_4 := Aside0.mk hc0_4
  clear hr0_4 hc0_4
  have HR0_5 := Aside0.mk hr0_5
  have HC0_5 := Aside0.mk hc0_5
  clear hr0_5 hc0_5
  have HB := Aside0.mk (Below.refl w.heap.size w)
  have H : (if (wrap64 (a1 - 1)) < 0 then (spec_weigh.j0 k (wrap64 (a1 - 1)) a2 true a0_0 a0_1 a0_2 a0_3 l0_4 l0_5) else (if a2 = 0 then (spec_weigh.j0 k (wrap64 (a1 - 1)) a2 true a0_0 a0_1 a0_2 a0_3 l0_4 l0_5) else (spec_weigh.j0 k (wrap64 (a1 - 1)) a2 (decide ((l0_5.length : Int) > (wrap64 (a1 - 1)))) a0_0 a0_1 a0_2 a0_3 l0_4 l0_5))) = some r := h
  clear h
  have HC4 := Aside0.mk H
  clear H
  go_enter Try.func16, Try.ntmps16
  go_upto_region 2 with (first | ((with_reducible refine gate_dst (N := 3) rfl ?_); (try (refine gate_guard (by rfl) ?_; dsimp only)); refine box_event ?hg (N := 3) ?hd (cs := #[.int .i64 a0_0, .int .i64 a0_1, .float .f64 a0_2, .string a0_3, .slice A0_4 l0_4.length c0_4, .slice A0_5 l0_5.length c0_5]) (t := 31) ?hr ?_; (case hd => rfl); (case hg => rfl); (case hr => first | (go_simp; done) | (go_simp; rfl)); intro gb101 hg w5 hbox hb; have n0_ := Aside0.mk (below_step (by repeat (first | (with_reducible first | exact HB.out | apply below_alloc | apply pw_below_drewN | apply below_drew1) | exact HB.out)) hb); have n1_ := Aside0.mk (hbox); have n2_ := Aside0.mk ((by rw [hg]; exact (below_size (by repeat (first | (with_reducible first | exact HB.out | apply below_alloc | apply pw_below_drewN | apply below_drew1) | exact HB.out))) : w.heap.size ≤ gb101)); have n3_ := Aside0.mk ((by rw [hg]; exact (below_size (by repeat (first | (with_reducible first | exact HB.out | apply below_alloc | apply pw_below_drewN | apply below_drew1) | exact HB.out))) : w.heap.size ≤ gb101)); clear HB; have HB := n0_; have BK101 := n1_; have GW101 := n2_; have GE101 := n3_; clear n0_ n1_ n2_ n3_; clear hb hbox hg))
  (try simp only [Act.put, List.setIfInBounds_toArray, List.set_cons_zero, List.set_cons_succ])
  go_cut [22] (fun v22 wc => ∃ (kq : Nat) (x22_3 : Bool), v22 = .bool x22_3 ∧ Aside0 (spec_weigh.j0 kq (wrap64 (a1 - 1)) a2 x22_3 a0_0 a0_1 a0_2 a0_3 l0_4 l0_5 = some r) ∧ Aside0 (kq ≤ k) ∧ Aside0 (wc.heap[gb101]? = some (.cells #[.int .i64 a0_0, .int .i64 a0_1, .float .f64 a0_2, .string a0_3, (.slice A0_4 l0_4.length c0_4), (.slice A0_5 l0_5.length c0_5)] 31 (0, 0))) ∧ Aside0 (Below w.heap.size w wc))
  case first =>
    have H := HC4.out
    clear HC4
    by_cases c6 : (wrap64 (a1 - 1)) < 0
    · rw [if_pos c6] at H
      have c6b0 : decide ((wrap64 (a1 - 1)) < 0) = true := decide_eq_true c6
      clear c6
      (first | rw [c6b0] | (simp only [i64_w, i32_w]; rw [c6b0]) | skip)
      as_aux_lemma =>
        have H' := Aside0.mk H
        clear H
        go_wp2
        go_meet
        case rel => exact ⟨_, (true), (by first | rfl | (simp only [bytesLe_not]; done) | (simp; done) | (simp [*]; done)), H', ⟨by first | omega | exact Nat.le_refl _⟩, ⟨by (with_reducible repeat (first | refine blk_drewN ?_ _ | refine blk_drew ?_ | refine blk_alloc ?_ _)); exact BK101.out⟩, ⟨by repeat (first | (with_reducible first | exact HB.out | apply below_alloc | apply pw_below_drewN | apply below_drew1 | refine below_set ?_ GE101.out) | exact HB.out)⟩⟩
    · rw [if_neg c6] at H
      have c6b0 : decide ((wrap64 (a1 - 1)) < 0) = false := decide_eq_false c6
      clear c6
      (first | rw [c6b0] | (simp only [i64_w, i32_w]; rw [c6b0]) | skip)
      by_cases c7 : a2 = 0
      · rw [if_pos c7] at H
        have c7b0 : (a2 == 0) = true := beq_iff_eq.mpr c7
        have c7b1 : (a2 != 0) = false := bne_eq_false_iff_eq.mpr c7
        clear c7
        as_aux_lemma =>
          have H' := Aside0.mk H
          clear H
          go_wp2
          go_meet
          case rel => exact ⟨_, (true), (by first | rfl | (simp only [bytesLe_not]; done) | (simp; done) | (simp [*]; done)), H', ⟨by first | omega | exact Nat.le_refl _⟩, ⟨by (with_reducible repeat (first | refine blk_drewN ?_ _ | refine blk_drew ?_ | refine blk_alloc ?_ _)); exact BK101.out⟩, ⟨by repeat (first | (with_reducible first | exact HB.out | apply below_alloc | apply pw_below_drewN | apply below_drew1 | refine below_set ?_ GE101.out) | exact HB.out)⟩⟩
      · rw [if_neg c7] at H
        have c7b0 : (a2 == 0) = false := beq_eq_false_iff_ne.mpr c7
        have c7b1 : (a2 != 0) = true := bne_iff_ne.mpr c7
        as_aux_lemma =>
          have H' := Aside0.mk H
          clear H
          have hcz8_0 : w5.cell? ⟨gb101, 0, none⟩ = some (.int .i64 a0_0) := (blk_cell BK101.out 0).trans rfl
          have hcz8_1 : w5.cell? ⟨gb101, 1, none⟩ = some (.int .i64 a0_1) := (blk_cell BK101.out 1).trans rfl
          have hcz8_2 : w5.cell? ⟨gb101, 2, none⟩ = some (.float .f64 a0_2) := (blk_cell BK101.out 2).trans rfl
          have hcz8_3 : w5.cell? ⟨gb101, 3, none⟩ = some (.string a0_3) := (blk_cell BK101.out 3).trans rfl
          have hcz8_4 : w5.cell? ⟨gb101, 4, none⟩ = some (.slice A0_4 l0_4.length c0_4) := (blk_cell BK101.out 4).trans rfl
          have hcz8_5 : w5.cell? ⟨gb101, 5, none⟩ = some (.slice A0_5 l0_5.length c0_5) := (blk_cell BK101.out 5).trans rfl
          have hfz8_0 := blk_frozen BK101.out 0
          have hfz8_1 := blk_frozen BK101.out 1
          have hfz8_2 := blk_frozen BK101.out 2
          have hfz8_3 := blk_frozen BK101.out 3
          have hfz8_4 := blk_frozen BK101.out 4
          have hfz8_5 := blk_frozen BK101.out 5
          go_wp2
          go_meet
          case rel => exact ⟨_, (decide ((l0_5.length : Int) > (wrap64 (a1 - 1)))), (by first | rfl | (simp only [bytesLe_not]; done) | (simp; done) | (simp [*]; done)), H', ⟨by first | omega | exact Nat.le_refl _⟩, ⟨by (with_reducible repeat (first | refine blk_drewN ?_ _ | refine blk_drew ?_ | refine blk_alloc ?_ _)); exact BK101.out⟩, ⟨by repeat (first | (with_reducible first | exact HB.out | apply below_alloc | apply pw_below_drewN | apply below_drew1 | refine below_set ?_ GE101.out) | exact HB.out)⟩⟩
  case rest =>
    clear HC4
    try clear c1
    try clear p2
    try clear c6
    try clear c6b0
    try clear p6
    try clear c7
    try clear c7b0
    try clear c7b1
    try clear hcz8_0
    try clear hcz8_1
    try clear hcz8_2
    try clear hcz8_3
    try clear hcz8_4
    try clear hcz8_5
    try clear hfz8_0
    try clear hfz8_1
    try clear hfz8_2
    try clear hfz8_3
    try clear hfz8_4
    try clear hfz8_5
    obtain ⟨kq, x22_3, rfl, HA, HJ3, BK101, HB⟩ := hcut
    cases kq with
    | zero => exact absurd HA.out (by simp [spec_weigh.j0])
    | succ kj3 =>
      have H := HA.out
      clear HA
      simp only [spec_weigh.j0] at H
      by_cases c9 : x22_3 = true
      · subst c9
        have H1 : (some (-1)) = some r := by rw [if_pos rfl] at H; exact H
        clear H
        have H := H1
        clear H1
        as_aux_lemma =>
          obtain rfl := Option.some.inj H
          go_wp2
          go_ret
          exact ⟨by first | rfl | (simp [errW_none, errW_some] <;> rfl) | (simp [*, errW_none, errW_some] <;> rfl), by repeat (first | (with_reducible first | exact HB.out | apply below_alloc | apply pw_below_drewN | apply below_drew1 | refine below_set ?_ GE101.out) | exact HB.out)⟩
      · replace c9 := Bool.eq_false_iff.mpr c9
        subst c9
        have H1 : (spec_weigh.l0 kj3 (wrap64 (a1 - 1)) a2 0 a0_0 a0_1 a0_2 a0_3 l0_4 l0_5) = some r := by rw [if_neg (show ¬ (false = true) by decide)] at H; exact H
        clear H
        have H := H1
        clear H1
        have H' := Aside0.mk H
        clear H
        go_wp2
        go_loopg [1, 7] kj3 (fun kq v1 v7 w' => ∃ (x1_2 : Int) (x7_2 : Int), v1 = .int .i64 x1_2 ∧ v7 = .int .i64 x7_2 ∧ Aside0 (spec_weigh.l0 kq x1_2 a2 x7_2 a0_0 a0_1 a0_2 a0_3 l0_4 l0_5 = some r) ∧ Aside0 (kq ≤ kj3) ∧ Aside0 (w'.heap[gb101]? = some (.cells #[.int .i64 a0_0, .int .i64 a0_1, .float .f64 a0_2, .string a0_3, (.slice A0_4 l0_4.length c0_4), (.slice A0_5 l0_5.length c0_5)] 31 (0, 0))) ∧ Aside0 (Below w.heap.size w w'))
        case atStart => exact ⟨((wrap64 (a1 - 1))), (0), (by first | rfl | (simp only [bytesLe_not]; done) | (simp; done) | (simp [*]; done)), (by first | rfl | (simp only [bytesLe_not]; done) | (simp; done) | (simp [*]; done)), H', ⟨Nat.le_refl _⟩, ⟨by (with_reducible repeat (first | refine blk_drewN ?_ _ | refine blk_drew ?_ | refine blk_alloc ?_ _)); exact BK101.out⟩, ⟨by repeat (first | (with_reducible first | exact HB.out | apply below_alloc | apply pw_below_drewN | apply below_drew1 | refine below_set ?_ GE101.out) | exact HB.out)⟩⟩
        case round =>
          clear H'
          try clear c1
          try clear p2
          try clear c6
          try clear c6b0
          try clear p6
          try clear c7
          try clear c7b0
          try clear c7b1
          try clear c9
          try clear hcz8_0
          try clear hcz8_1
          try clear hcz8_2
          try clear hcz8_3
          try clear hcz8_4
          try clear hcz8_5
          try clear hfz8_0
          try clear hfz8_1
          try clear hfz8_2
          try clear hfz8_3
          try clear hfz8_4
          try clear hfz8_5
          try clear p2
          try clear p6
          obtain ⟨x1_2, x7_2, rfl, rfl, HA, HK2, BK101, HB⟩ := hrel
          cases gk with
          | zero => exact absurd HA.out (by simp [spec_weigh.l0])
          | succ k2 =>
            have H := HA.out
            clear HA
            simp only [spec_weigh.l0] at H
            by_cases c10 : x7_2 < (l0_5.length : Int)
            · rw [if_pos c10] at H
              have c10b0 : decide (x7_2 < (l0_5.length : Int)) = true := decide_eq_true c10
              clear c10
              by_cases c11 : x1_2 ≥ 0
              · rw [if_pos c11] at H
                have c11b0 : decide (0 ≤ x1_2) = true := decide_eq_true c11
                clear c11
                by_cases c12 : 0 ≤ x7_2
                · rw [if_pos c12] at H
                  have c12b0 : decide (0 ≤ x7_2) = true := decide_eq_true c12
                  clear c12
                  replace H := Option.bind_eq_some_iff.mp H
                  obtain ⟨t103, A130, H⟩ := H
                  replace H : (spec_weigh.l0 k2 t103 a2 (wrap64 (x7_2 + 1)) a0_0 a0_1 a0_2 a0_3 l0_4 l0_5) = some r := H
                  have A13 := Aside0.mk A130
                  clear A130
                  as_aux_lemma =>
                    have H' := Aside0.mk H
                    clear H
                    have hcz14_0 : wr.cell? ⟨gb101, 0, none⟩ = some (.int .i64 a0_0) := (blk_cell BK101.out 0).trans rfl
                    have hcz14_1 : wr.cell? ⟨gb101, 1, none⟩ = some (.int .i64 a0_1) := (blk_cell BK101.out 1).trans rfl
                    have hcz14_2 : wr.cell? ⟨gb101, 2, none⟩ = some (.float .f64 a0_2) := (blk_cell BK101.out 2).trans rfl
                    have hcz14_3 : wr.cell? ⟨gb101, 3, none⟩ = some (.string a0_3) := (blk_cell BK101.out 3).trans rfl
                    have hcz14_4 : wr.cell? ⟨gb101, 4, none⟩ = some (.slice A0_4 l0_4.length c0_4) := (blk_cell BK101.out 4).trans rfl
                    have hcz14_5 : wr.cell? ⟨gb101, 5, none⟩ = some (.slice A0_5 l0_5.length c0_5) := (blk_cell BK101.out 5).trans rfl
                    have hfz14_0 := blk_frozen BK101.out 0
                    have hfz14_1 := blk_frozen BK101.out 1
                    have hfz14_2 := blk_frozen BK101.out 2
                    have hfz14_3 := blk_frozen BK101.out 3
                    have hfz14_4 := blk_frozen BK101.out 4
                    have hfz14_5 := blk_frozen BK101.out 5
                    have p102 : 0 ≤ (x7_2 : Int) := of_decide_eq_true (by first | (with_reducible assumption) | assumption)
                    have q102 : x7_2 < (l0_5.length : Int) := of_decide_eq_true (by first | (with_reducible assumption) | assumption)
                    obtain ⟨ad102, A102_4, c102_4, A102_5, c102_5, e102, hx102_0, hx102_1, hx102_2, hx102_3, hx102_4, hx102_5, hl102_4, hi102_4, hl102_5, hi102_5⟩ := at_T31 HR0_5.out x7_2 p102 q102
                    cases e102
                    replace hx102_0 := (HB.out.cell (World.block_lt_of_cell? w _ hx102_0)).trans hx102_0
                    replace hx102_1 := (HB.out.cell (World.block_lt_of_cell? w _ hx102_1)).trans hx102_1
                    replace hx102_2 := (HB.out.cell (World.block_lt_of_cell? w _ hx102_2)).trans hx102_2
                    replace hx102_3 := (HB.out.cell (World.block_lt_of_cell? w _ hx102_3)).trans hx102_3
                    replace hx102_4 := (HB.out.cell (World.block_lt_of_cell? w _ hx102_4)).trans hx102_4
                    replace hx102_5 := (HB.out.cell (World.block_lt_of_cell? w _ hx102_5)).trans hx102_5
                    have HR102_4 := Aside0.mk hi102_4
                    have HC102_4 := Aside0.mk hl102_4
                    clear hi102_4 hl102_4
                    have HR102_5 := Aside0.mk hi102_5
                    have HC102_5 := Aside0.mk hl102_5
                    clear hi102_5 hl102_5
                    replace p102 := eq_true p102
                    replace q102 := eq_true q102
                    go_wp2_with (first | ((with_reducible refine gate_callee (f := 16) rfl ?_); refine goesL_ (some 42) rfl rfl Try.func16 (by kernel_rfl) rfl #[.agg #[.int .i64 ((rd_T31 l0_5 x7_2).f0), .int .i64 ((rd_T31 l0_5 x7_2).f1), .float .f64 ((rd_T31 l0_5 x7_2).f2), .string ((rd_T31 l0_5 x7_2).f3), .slice A102_4 ((rd_T31 l0_5 x7_2).f4).length c102_4, .slice A102_5 ((rd_T31 l0_5 x7_2).f5).length c102_5], .int .i64 x1_2, .int .i64 (wrap64 (a2 - 1))] rfl (by (try simp only [List.map_toArray, List.map_cons, List.map_nil]); first | done | rfl | (simp only [List.length_drop, List.length_take]; rfl)) ?_; (with_reducible refine (ih k2 (by have := HJ3.out; have := HK2.out; omega) ((rd_T31 l0_5 x7_2).f0) ((rd_T31 l0_5 x7_2).f1) ((rd_T31 l0_5 x7_2).f2) ((rd_T31 l0_5 x7_2).f3) _ _ ((rd_T31 l0_5 x7_2).f4) _ _ ((rd_T31 l0_5 x7_2).f5) x1_2 (wrap64 (a2 - 1)) t103 _ ?side1 ?side2 ?side3 ?side4 A13.out).mono ?_); (case side1 => repeat (first | exact (Kd.C_below HR102_4.out HB.out) | (with_reducible refine Kd.C_alloc ?_ _) | (with_reducible refine Kd.C_drewN ?_ _) | (with_reducible refine Kd.C_drew ?_))); (case side2 => exact HC102_4.out); (case side3 => repeat (first | exact (Kd.C_below HR102_5.out HB.out) | (with_reducible refine Kd.C_alloc ?_ _) | (with_reducible refine Kd.C_drewN ?_ _) | (with_reducible refine Kd.C_drew ?_))); (case side4 => exact HC102_5.out); rintro e w15 ⟨rfl, hb⟩; refine ⟨_, rfl, ?_⟩; have n0_ := Aside0.mk (blk_below (g := gb101) (o := .cells #[.int .i64 a0_0, .int .i64 a0_1, .float .f64 a0_2, .string a0_3, .slice A0_4 l0_4.length c0_4, .slice (some ad102) l0_5.length c0_5] 31 (0, 0)) (by (with_reducible repeat (first | refine blk_drewN ?_ _ | refine blk_drew ?_ | refine blk_alloc ?_ _)); exact BK101.out) hb); have n1_ := Aside0.mk (below_step (by repeat (first | (with_reducible first | exact HB.out | apply below_alloc | apply pw_below_drewN | apply below_drew1 | refine below_set ?_ GE101.out) | exact HB.out)) hb); clear BK101; clear HB; have BK101 := n0_; have HB := n1_; clear n0_ n1_; (try clear hb); (try clear hb2); (try clear hk); (try clear hi)))
                    go_roundg k2
                    case measure => have := HJ3.out; have := HK2.out; omega
                    case rel => exact ⟨(t103), (wrap64 (x7_2 + 1)), (by first | rfl | (simp only [bytesLe_not]; done) | (simp; done) | (simp [*]; done)), (by first | rfl | (simp only [bytesLe_not]; done) | (simp; done) | (simp [*]; done)), H', ⟨by have := HJ3.out; have := HK2.out; omega⟩, ⟨by (with_reducible repeat (first | refine blk_drewN ?_ _ | refine blk_drew ?_ | refine blk_alloc ?_ _)); exact BK101.out⟩, ⟨by repeat (first | (with_reducible first | exact HB.out | apply below_alloc | apply pw_below_drewN | apply below_drew1 | refine below_set ?_ GE101.out) | exact HB.out)⟩⟩
                · rw [if_neg c12] at H
                  exact absurd H (by simp)
              · rw [if_neg c11] at H
                have c11b0 : decide (0 ≤ x1_2) = false := decide_eq_false c11
                clear c11
                as_aux_lemma =>
                  obtain rfl := Option.some.inj H
                  have hcz16_0 : wr.cell? ⟨gb101, 0, none⟩ = some (.int .i64 a0_0) := (blk_cell BK101.out 0).trans rfl
                  have hcz16_1 : wr.cell? ⟨gb101, 1, none⟩ = some (.int .i64 a0_1) := (blk_cell BK101.out 1).trans rfl
                  have hcz16_2 : wr.cell? ⟨gb101, 2, none⟩ = some (.float .f64 a0_2) := (blk_cell BK101.out 2).trans rfl
                  have hcz16_3 : wr.cell? ⟨gb101, 3, none⟩ = some (.string a0_3) := (blk_cell BK101.out 3).trans rfl
                  have hcz16_4 : wr.cell? ⟨gb101, 4, none⟩ = some (.slice A0_4 l0_4.length c0_4) := (blk_cell BK101.out 4).trans rfl
                  have hcz16_5 : wr.cell? ⟨gb101, 5, none⟩ = some (.slice A0_5 l0_5.length c0_5) := (blk_cell BK101.out 5).trans rfl
                  have hfz16_0 := blk_frozen BK101.out 0
                  have hfz16_1 := blk_frozen BK101.out 1
                  have hfz16_2 := blk_frozen BK101.out 2
                  have hfz16_3 := blk_frozen BK101.out 3
                  have hfz16_4 := blk_frozen BK101.out 4
                  have hfz16_5 := blk_frozen BK101.out 5
                  go_wp2
                  go_ret
                  exact ⟨by first | rfl | (simp [errW_none, errW_some] <;> rfl) | (simp [*, errW_none, errW_some] <;> rfl), by repeat (first | (with_reducible first | exact HB.out | apply below_alloc | apply pw_below_drewN | apply below_drew1 | refine below_set ?_ GE101.out) | exact HB.out)⟩
            · rw [if_neg c10] at H
              have c10b0 : decide (x7_2 < (l0_5.length : Int)) = false := decide_eq_false c10
              clear c10
              as_aux_lemma =>
                obtain rfl := Option.some.inj H
                have hcz17_0 : wr.cell? ⟨gb101, 0, none⟩ = some (.int .i64 a0_0) := (blk_cell BK101.out 0).trans rfl
                have hcz17_1 : wr.cell? ⟨gb101, 1, none⟩ = some (.int .i64 a0_1) := (blk_cell BK101.out 1).trans rfl
                have hcz17_2 : wr.cell? ⟨gb101, 2, none⟩ = some (.float .f64 a0_2) := (blk_cell BK101.out 2).trans rfl
                have hcz17_3 : wr.cell? ⟨gb101, 3, none⟩ = some (.string a0_3) := (blk_cell BK101.out 3).trans rfl
                have hcz17_4 : wr.cell? ⟨gb101, 4, none⟩ = some (.slice A0_4 l0_4.length c0_4) := (blk_cell BK101.out 4).trans rfl
                have hcz17_5 : wr.cell? ⟨gb101, 5, none⟩ = some (.slice A0_5 l0_5.length c0_5) := (blk_cell BK101.out 5).trans rfl
                have hfz17_0 := blk_frozen BK101.out 0
                have hfz17_1 := blk_frozen BK101.out 1
                have hfz17_2 := blk_frozen BK101.out 2
                have hfz17_3 := blk_frozen BK101.out 3
                have hfz17_4 := blk_frozen BK101.out 4
                have hfz17_5 := blk_frozen BK101.out 5
                go_wp2
                go_ret
                exact ⟨by first | rfl | (simp [errW_none, errW_some] <;> rfl) | (simp [*, errW_none, errW_some] <;> rfl), by repeat (first | (with_reducible first | exact HB.out | apply below_alloc | apply pw_below_drewN | apply below_drew1 | refine below_set ?_ GE101.out) | exact HB.out)⟩

/-! ### spec_Bare: function 31 -/
def spec_Bare.f (a0_0 : Int) (a0_1 : Int) (a0_2 : Nat) (a0_3 : ByteArray) (l0_4 : List ByteArray) (l0_5 : List (S31)) (a1_0 : Int) (a1_1 : Int) (a1_2 : Nat) (a1_3 : ByteArray) (l1_4 : List ByteArray) (l1_5 : List (S31)) : Option (Bool) := if a0_0 = a1_0 then (if a0_1 = a1_1 then (if (FloatKind.f64.format.order a0_2 a1_2 == some Ordering.eq) = true then (some (a0_3.toList == a1_3.toList)) else (if (FloatKind.f64.format.order a0_2 a0_2 != some Ordering.eq) = true then (if (FloatKind.f64.format.order a1_2 a1_2 != some Ordering.eq) = true then (some (a0_3.toList == a1_3.toList)) else (some false)) else (some false))) else (some false)) else (some false)
set_option maxHeartbeats 8000000 in
set_option maxRecDepth 100000 in
theorem spec_Bare.calls (a0_0 : Int) (a0_1 : Int) (a0_2 : Nat) (a0_3 : ByteArray) (A0_4 : Option Addr) (c0_4 : Nat) (l0_4 : List ByteArray) (A0_5 : Option Addr) (c0_5 : Nat) (l0_5 : List (S31)) (a1_0 : Int) (a1_1 : Int) (a1_2 : Nat) (a1_3 : ByteArray) (A1_4 : Option Addr) (c1_4 : Nat) (l1_4 : List ByteArray) (A1_5 : Option Addr) (c1_5 : Nat) (l1_5 : List (S31)) (r : Bool) (w : World) (hr0_4 : Kd.C Kd.string w A0_4 l0_4.length l0_4) (hc0_4 : l0_4.length ≤ c0_4) (hr0_5 : Kd.C k31 w A0_5 l0_5.length l0_5) (hc0_5 : l0_5.length ≤ c0_5) (hr1_4 : Kd.C Kd.string w A1_4 l1_4.length l1_4) (hc1_4 : l1_4.length ≤ c1_4) (hr1_5 : Kd.C k31 w A1_5 l1_5.length l1_5) (hc1_5 : l1_5.length ≤ c1_5) (h : spec_Bare.f a0_0 a0_1 a0_2 a0_3 l0_4 l0_5 a1_0 a1_1 a1_2 a1_3 l1_4 l1_5 = some r) :
    Calls Try.prog 31 #[.agg #[.int .i64 a0_0, .int .i64 a0_1, .float .f64 a0_2, .string a0_3, .slice A0_4 l0_4.length c0_4, .slice A0_5 l0_5.length c0_5], .agg #[.int .i64 a1_0, .int .i64 a1_1, .float .f64 a1_2, .string a1_3, .slice A1_4 l1_4.length c1_4, .slice A1_5 l1_5.length c1_5]] w fun e w' => e = .returned (.bool r) ∧ Below w.heap.size w w' := by
  have hu31 := Try.underlying31
  have HR0_4 := Aside0.mk hr0_4
  have HC0_4 := Aside0.mk hc0_4
  clear hr0_4 hc0_4
  have HR0_5 := Aside0.mk hr0_5
  have HC0_5 := Aside0.mk hc0_5
  clear hr0_5 hc0_5
  have HR1_4 := Aside0.mk hr1_4
  have HC1_4 := Aside0.mk hc1_4
  clear hr1_4 hc1_4
  have HR1_5 := Aside0.mk hr1_5
  have HC1_5 := Aside0.mk hc1_5
  clear hr1_5 hc1_5
  have HB := Aside0.mk (Below.refl w.heap.size w)
  have H : (if a0_0 = a1_0 then (if a0_1 = a1_1 then (if (FloatKind.f64.format.order a0_2 a1_2 == some Ordering.eq) = true then (some (a0_3.toList == a1_3.toList)) else (if (FloatKind.f64.format.order a0_2 a0_2 != some Ordering.eq) = true then (if (FloatKind.f64.format.order a1_2 a1_2 != some Ordering.eq) = true then (some (a0_3.toList == a1_3.toList)) else (some false)) else (some false))) else (some false)) else (some false)) = some r := h
  clear h
  by_cases c3 : a0_0 = a1_0
  · rw [if_pos c3] at H
    have c3b0 : (a0_0 == a1_0) = true := beq_iff_eq.mpr c3
    have c3b1 : (a0_0 != a1_0) = false := bne_eq_false_iff_eq.mpr c3
    clear c3
    by_cases c4 : a0_1 = a1_1
    · rw [if_pos c4] at H
      have c4b0 : (a0_1 == a1_1) = true := beq_iff_eq.mpr c4
      have c4b1 : (a0_1 != a1_1) = false := bne_eq_false_iff_eq.mpr c4
      clear c4
      by_cases c5 : (FloatKind.f64.format.order a0_2 a1_2 == some Ordering.eq) = true
      · rw [if_pos c5] at H
        have c5b0 : (FloatKind.f64.format.order a0_2 a1_2 == some Ordering.eq) = true := c5
        (try (have c5b1 : decide (FloatKind.f64.format.order a0_2 a1_2 = some Ordering.eq) = true := by simpa using c5))
        (try (have c5b2 : (FloatKind.f64.format.order a0_2 a1_2 == some Ordering.eq) = true := by simpa using c5))
        clear c5
        as_aux_lemma =>
          obtain rfl := Option.some.inj H
          go_enter Try.func31, Try.ntmps31
          go_wp2_with (first | ((with_reducible refine gate_dst (N := 2) rfl ?_); refine box_event ?hg (N := 2) ?hd (cs := #[.int .i64 a0_0, .int .i64 a0_1, .float .f64 a0_2, .string a0_3, .slice A0_4 l0_4.length c0_4, .slice A0_5 l0_5.length c0_5]) (t := 31) ?hr ?_; (case hd => rfl); (case hg => rfl); (case hr => first | (go_simp; done) | (go_simp; rfl)); intro gb104 hg w6 hbox hb; have n0_ := Aside0.mk (below_step (by repeat (first | (with_reducible first | exact HB.out | apply below_alloc | apply pw_below_drewN | apply below_drew1) | exact HB.out)) hb); have n1_ := Aside0.mk (hbox); have n2_ := Aside0.mk ((by rw [hg]; exact (below_size (by repeat (first | (with_reducible first | exact HB.out | apply below_alloc | apply pw_below_drewN | apply below_drew1) | exact HB.out))) : w.heap.size ≤ gb104)); have n3_ := Aside0.mk ((by rw [hg]; exact (below_size (by repeat (first | (with_reducible first | exact HB.out | apply below_alloc | apply pw_below_drewN | apply below_drew1) | exact HB.out))) : w.heap.size ≤ gb104)); clear HB; have HB := n0_; have BK104 := n1_; have GW104 := n2_; have GE104 := n3_; clear n0_ n1_ n2_ n3_; clear hb hbox hg) | ((with_reducible refine gate_dst (N := 3) rfl ?_); refine box_event ?hg (N := 3) ?hd (cs := #[.int .i64 a1_0, .int .i64 a1_1, .float .f64 a1_2, .string a1_3, .slice A1_4 l1_4.length c1_4, .slice A1_5 l1_5.length c1_5]) (t := 31) ?hr ?_; (case hd => rfl); (case hg => rfl); (case hr => first | (go_simp; done) | (go_simp; rfl)); intro gb105 hg w7 hbox hb; have n0_ := Aside0.mk (blk_below (g := gb104) (o := .cells #[.int .i64 a0_0, .int .i64 a0_1, .float .f64 a0_2, .string a0_3, .slice A0_4 l0_4.length c0_4, .slice A0_5 l0_5.length c0_5] 31 (0, 0)) (by (with_reducible repeat (first | refine blk_drewN ?_ _ | refine blk_drew ?_ | refine blk_alloc ?_ _)); exact BK104.out) hb); have n1_ := Aside0.mk (below_step (by repeat (first | (with_reducible first | exact HB.out | apply below_alloc | apply pw_below_drewN | apply below_drew1 | refine below_set ?_ GE104.out) | exact HB.out)) hb); have n2_ := Aside0.mk (hbox); have n3_ := Aside0.mk ((by rw [hg]; exact (below_size (by repeat (first | (with_reducible first | exact HB.out | apply below_alloc | apply pw_below_drewN | apply below_drew1 | refine below_set ?_ GE104.out) | exact HB.out))) : w.heap.size ≤ gb105)); have n4_ := Aside0.mk ((by rw [hg]; exact (below_size (by repeat (first | (with_reducible first | exact HB.out | apply below_alloc | apply pw_below_drewN | apply below_drew1 | refine below_set ?_ GE104.out) | exact HB.out))) : w.heap.size ≤ gb105)); have n5_ := Aside0.mk ((by rw [hg]; exact Nat.ne_of_lt (blk_lt (g := gb104) (o := .cells #[.int .i64 a0_0, .int .i64 a0_1, .float .f64 a0_2, .string a0_3, .slice A0_4 l0_4.length c0_4, .slice A0_5 l0_5.length c0_5] 31 (0, 0)) (by (with_reducible repeat (first | refine blk_drewN ?_ _ | refine blk_drew ?_ | refine blk_alloc ?_ _)); exact BK104.out)) : gb104 ≠ gb105)); have n6_ := Aside0.mk ((by rw [hg]; exact Nat.ne_of_gt (blk_lt (g := gb104) (o := .cells #[.int .i64 a0_0, .int .i64 a0_1, .float .f64 a0_2, .string a0_3, .slice A0_4 l0_4.length c0_4, .slice A0_5 l0_5.length c0_5] 31 (0, 0)) (by (with_reducible repeat (first | refine blk_drewN ?_ _ | refine blk_drew ?_ | refine blk_alloc ?_ _)); exact BK104.out)) : gb105 ≠ gb104)); clear BK104; clear HB; have BK104 := n0_; have HB := n1_; have BK105 := n2_; have GW105 := n3_; have GE105 := n4_; have NB104_105 := n5_; have NB105_104 := n6_; clear n0_ n1_ n2_ n3_ n4_ n5_ n6_; clear hb hbox hg; have hnb8 := NB104_105.out; have hnc8 := NB105_104.out; have hcz9_0 : w7.cell? ⟨gb104, 0, none⟩ = some (.int .i64 a0_0) := (blk_cell BK104.out 0).trans rfl; have hcz9_1 : w7.cell? ⟨gb104, 1, none⟩ = some (.int .i64 a0_1) := (blk_cell BK104.out 1).trans rfl; have hcz9_2 : w7.cell? ⟨gb104, 2, none⟩ = some (.float .f64 a0_2) := (blk_cell BK104.out 2).trans rfl; have hcz9_3 : w7.cell? ⟨gb104, 3, none⟩ = some (.string a0_3) := (blk_cell BK104.out 3).trans rfl; have hcz9_4 : w7.cell? ⟨gb104, 4, none⟩ = some (.slice A0_4 l0_4.length c0_4) := (blk_cell BK104.out 4).trans rfl; have hcz9_5 : w7.cell? ⟨gb104, 5, none⟩ = some (.slice A0_5 l0_5.length c0_5) := (blk_cell BK104.out 5).trans rfl; have hfz9_0 := blk_frozen BK104.out 0; have hfz9_1 := blk_frozen BK104.out 1; have hfz9_2 := blk_frozen BK104.out 2; have hfz9_3 := blk_frozen BK104.out 3; have hfz9_4 := blk_frozen BK104.out 4; have hfz9_5 := blk_frozen BK104.out 5; have hcz10_0 : w7.cell? ⟨gb105, 0, none⟩ = some (.int .i64 a1_0) := (blk_cell BK105.out 0).trans rfl; have hcz10_1 : w7.cell? ⟨gb105, 1, none⟩ = some (.int .i64 a1_1) := (blk_cell BK105.out 1).trans rfl; have hcz10_2 : w7.cell? ⟨gb105, 2, none⟩ = some (.float .f64 a1_2) := (blk_cell BK105.out 2).trans rfl; have hcz10_3 : w7.cell? ⟨gb105, 3, none⟩ = some (.string a1_3) := (blk_cell BK105.out 3).trans rfl; have hcz10_4 : w7.cell? ⟨gb105, 4, none⟩ = some (.slice A1_4 l1_4.length c1_4) := (blk_cell BK105.out 4).trans rfl; have hcz10_5 : w7.cell? ⟨gb105, 5, none⟩ = some (.slice A1_5 l1_5.length c1_5) := (blk_cell BK105.out 5).trans rfl; have hfz10_0 := blk_frozen BK105.out 0; have hfz10_1 := blk_frozen BK105.out 1; have hfz10_2 := blk_frozen BK105.out 2; have hfz10_3 := blk_frozen BK105.out 3; have hfz10_4 := blk_frozen BK105.out 4; have hfz10_5 := blk_frozen BK105.out 5))
          go_ret
          exact ⟨by first | rfl | (simp [errW_none, errW_some] <;> rfl) | (simp [*, errW_none, errW_some] <;> rfl), by repeat (first | (with_reducible first | exact HB.out | apply below_alloc | apply pw_below_drewN | apply below_drew1 | refine below_set ?_ GE104.out | refine below_set ?_ GE105.out) | exact HB.out)⟩
      · rw [if_neg c5] at H
        have c5b0 : (FloatKind.f64.format.order a0_2 a1_2 == some Ordering.eq) = false := by simpa using c5
        (try (have c5b1 : decide (FloatKind.f64.format.order a0_2 a1_2 = some Ordering.eq) = false := by simpa using c5))
        (try (have c5b2 : (FloatKind.f64.format.order a0_2 a1_2 == some Ordering.eq) = false := by simpa using c5))
        (try (have c5b3 : ¬ (FloatKind.f64.format.order a0_2 a1_2 = some Ordering.eq) := by simpa using c5))
        clear c5
        by_cases c11 : (FloatKind.f64.format.order a0_2 a0_2 != some Ordering.eq) = true
        · rw [if_pos c11] at H
          have c11b0 : (FloatKind.f64.format.order a0_2 a0_2 != some Ordering.eq) = true := c11
          (try (have c11b1 : decide (FloatKind.f64.format.order a0_2 a0_2 = some Ordering.eq) = false := by simpa using c11))
          (try (have c11b2 : (FloatKind.f64.format.order a0_2 a0_2 == some Ordering.eq) = false := by simpa using c11))
          (try (have c11b3 : ¬ (FloatKind.f64.format.order a0_2 a0_2 = some Ordering.eq) := by simpa using c11))
          clear c11
          by_cases c12 : (FloatKind.f64.format.order a1_2 a1_2 != some Ordering.eq) = true
          · rw [if_pos c12] at H
            have c12b0 : (FloatKind.f64.format.order a1_2 a1_2 != some Ordering.eq) = true := c12
            (try (have c12b1 : decide (FloatKind.f64.format.order a1_2 a1_2 = some Ordering.eq) = false := by simpa using c12))
            (try (have c12b2 : (FloatKind.f64.format.order a1_2 a1_2 == some Ordering.eq) = false := by simpa using c12))
            (try (have c12b3 : ¬ (FloatKind.f64.format.order a1_2 a1_2 = some Ordering.eq) := by simpa using c12))
            clear c12
            as_aux_lemma =>
              obtain rfl := Option.some.inj H
              go_enter Try.func31, Try.ntmps31
              go_wp2_with (first | ((with_reducible refine gate_dst (N := 2) rfl ?_); refine box_event ?hg (N := 2) ?hd (cs := #[.int .i64 a0_0, .int .i64 a0_1, .float .f64 a0_2, .string a0_3, .slice A0_4 l0_4.length c0_4, .slice A0_5 l0_5.length c0_5]) (t := 31) ?hr ?_; (case hd => rfl); (case hg => rfl); (case hr => first | (go_simp; done) | (go_simp; rfl)); intro gb104 hg w13 hbox hb; have n0_ := Aside0.mk (below_step (by repeat (first | (with_reducible first | exact HB.out | apply below_alloc | apply pw_below_drewN | apply below_drew1) | exact HB.out)) hb); have n1_ := Aside0.mk (hbox); have n2_ := Aside0.mk ((by rw [hg]; exact (below_size (by repeat (first | (with_reducible first | exact HB.out | apply below_alloc | apply pw_below_drewN | apply below_drew1) | exact HB.out))) : w.heap.size ≤ gb104)); have n3_ := Aside0.mk ((by rw [hg]; exact (below_size (by repeat (first | (with_reducible first | exact HB.out | apply below_alloc | apply pw_below_drewN | apply below_drew1) | exact HB.out))) : w.heap.size ≤ gb104)); clear HB; have HB := n0_; have BK104 := n1_; have GW104 := n2_; have GE104 := n3_; clear n0_ n1_ n2_ n3_; clear hb hbox hg) | ((with_reducible refine gate_dst (N := 3) rfl ?_); refine box_event ?hg (N := 3) ?hd (cs := #[.int .i64 a1_0, .int .i64 a1_1, .float .f64 a1_2, .string a1_3, .slice A1_4 l1_4.length c1_4, .slice A1_5 l1_5.length c1_5]) (t := 31) ?hr ?_; (case hd => rfl); (case hg => rfl); (case hr => first | (go_simp; done) | (go_simp; rfl)); intro gb105 hg w14 hbox hb; have n0_ := Aside0.mk (blk_below (g := gb104) (o := .cells #[.int .i64 a0_0, .int .i64 a0_1, .float .f64 a0_2, .string a0_3, .slice A0_4 l0_4.length c0_4, .slice A0_5 l0_5.length c0_5] 31 (0, 0)) (by (with_reducible repeat (first | refine blk_drewN ?_ _ | refine blk_drew ?_ | refine blk_alloc ?_ _)); exact BK104.out) hb); have n1_ := Aside0.mk (below_step (by repeat (first | (with_reducible first | exact HB.out | apply below_alloc | apply pw_below_drewN | apply below_drew1 | refine below_set ?_ GE104.out) | exact HB.out)) hb); have n2_ := Aside0.mk (hbox); have n3_ := Aside0.mk ((by rw [hg]; exact (below_size (by repeat (first | (with_reducible first | exact HB.out | apply below_alloc | apply pw_below_drewN | apply below_drew1 | refine below_set ?_ GE104.out) | exact HB.out))) : w.heap.size ≤ gb105)); have n4_ := Aside0.mk ((by rw [hg]; exact (below_size (by repeat (first | (with_reducible first | exact HB.out | apply below_alloc | apply pw_below_drewN | apply below_drew1 | refine below_set ?_ GE104.out) | exact HB.out))) : w.heap.size ≤ gb105)); have n5_ := Aside0.mk ((by rw [hg]; exact Nat.ne_of_lt (blk_lt (g := gb104) (o := .cells #[.int .i64 a0_0, .int .i64 a0_1, .float .f64 a0_2, .string a0_3, .slice A0_4 l0_4.length c0_4, .slice A0_5 l0_5.length c0_5] 31 (0, 0)) (by (with_reducible repeat (first | refine blk_drewN ?_ _ | refine blk_drew ?_ | refine blk_alloc ?_ _)); exact BK104.out)) : gb104 ≠ gb105)); have n6_ := Aside0.mk ((by rw [hg]; exact Nat.ne_of_gt (blk_lt (g := gb104) (o := .cells #[.int .i64 a0_0, .int .i64 a0_1, .float .f64 a0_2, .string a0_3, .slice A0_4 l0_4.length c0_4, .slice A0_5 l0_5.length c0_5] 31 (0, 0)) (by (with_reducible repeat (first | refine blk_drewN ?_ _ | refine blk_drew ?_ | refine blk_alloc ?_ _)); exact BK104.out)) : gb105 ≠ gb104)); clear BK104; clear HB; have BK104 := n0_; have HB := n1_; have BK105 := n2_; have GW105 := n3_; have GE105 := n4_; have NB104_105 := n5_; have NB105_104 := n6_; clear n0_ n1_ n2_ n3_ n4_ n5_ n6_; clear hb hbox hg; have hnb15 := NB104_105.out; have hnc15 := NB105_104.out; have hcz16_0 : w14.cell? ⟨gb104, 0, none⟩ = some (.int .i64 a0_0) := (blk_cell BK104.out 0).trans rfl; have hcz16_1 : w14.cell? ⟨gb104, 1, none⟩ = some (.int .i64 a0_1) := (blk_cell BK104.out 1).trans rfl; have hcz16_2 : w14.cell? ⟨gb104, 2, none⟩ = some (.float .f64 a0_2) := (blk_cell BK104.out 2).trans rfl; have hcz16_3 : w14.cell? ⟨gb104, 3, none⟩ = some (.string a0_3) := (blk_cell BK104.out 3).trans rfl; have hcz16_4 : w14.cell? ⟨gb104, 4, none⟩ = some (.slice A0_4 l0_4.length c0_4) := (blk_cell BK104.out 4).trans rfl; have hcz16_5 : w14.cell? ⟨gb104, 5, none⟩ = some (.slice A0_5 l0_5.length c0_5) := (blk_cell BK104.out 5).trans rfl; have hfz16_0 := blk_frozen BK104.out 0; have hfz16_1 := blk_frozen BK104.out 1; have hfz16_2 := blk_frozen BK104.out 2; have hfz16_3 := blk_frozen BK104.out 3; have hfz16_4 := blk_frozen BK104.out 4; have hfz16_5 := blk_frozen BK104.out 5; have hcz17_0 : w14.cell? ⟨gb105, 0, none⟩ = some (.int .i64 a1_0) := (blk_cell BK105.out 0).trans rfl; have hcz17_1 : w14.cell? ⟨gb105, 1, none⟩ = some (.int .i64 a1_1) := (blk_cell BK105.out 1).trans rfl; have hcz17_2 : w14.cell? ⟨gb105, 2, none⟩ = some (.float .f64 a1_2) := (blk_cell BK105.out 2).trans rfl; have hcz17_3 : w14.cell? ⟨gb105, 3, none⟩ = some (.string a1_3) := (blk_cell BK105.out 3).trans rfl; have hcz17_4 : w14.cell? ⟨gb105, 4, none⟩ = some (.slice A1_4 l1_4.length c1_4) := (blk_cell BK105.out 4).trans rfl; have hcz17_5 : w14.cell? ⟨gb105, 5, none⟩ = some (.slice A1_5 l1_5.length c1_5) := (blk_cell BK105.out 5).trans rfl; have hfz17_0 := blk_frozen BK105.out 0; have hfz17_1 := blk_frozen BK105.out 1; have hfz17_2 := blk_frozen BK105.out 2; have hfz17_3 := blk_frozen BK105.out 3; have hfz17_4 := blk_frozen BK105.out 4; have hfz17_5 := blk_frozen BK105.out 5))
              go_ret
              exact ⟨by first | rfl | (simp [errW_none, errW_some] <;> rfl) | (simp [*, errW_none, errW_some] <;> rfl), by repeat (first | (with_reducible first | exact HB.out | apply below_alloc | apply pw_below_drewN | apply below_drew1 | refine below_set ?_ GE104.out | refine below_set ?_ GE105.out) | exact HB.out)⟩
          · rw [if_neg c12] at H
            have c12b0 : (FloatKind.f64.format.order a1_2 a1_2 != some Ordering.eq) = false := by simpa using c12
            (try (have c12b1 : decide (FloatKind.f64.format.order a1_2 a1_2 = some Ordering.eq) = true := by simpa using c12))
            (try (have c12b2 : (FloatKind.f64.format.order a1_2 a1_2 == some Ordering.eq) = true := by simpa using c12))
            clear c12
            as_aux_lemma =>
              obtain rfl := Option.some.inj H
              go_enter Try.func31, Try.ntmps31
              go_wp2_with (first | ((with_reducible refine gate_dst (N := 2) rfl ?_); refine box_event ?hg (N := 2) ?hd (cs := #[.int .i64 a0_0, .int .i64 a0_1, .float .f64 a0_2, .string a0_3, .slice A0_4 l0_4.length c0_4, .slice A0_5 l0_5.length c0_5]) (t := 31) ?hr ?_; (case hd => rfl); (case hg => rfl); (case hr => first | (go_simp; done) | (go_simp; rfl)); intro gb104 hg w18 hbox hb; have n0_ := Aside0.mk (below_step (by repeat (first | (with_reducible first | exact HB.out | apply below_alloc | apply pw_below_drewN | apply below_drew1) | exact HB.out)) hb); have n1_ := Aside0.mk (hbox); have n2_ := Aside0.mk ((by rw [hg]; exact (below_size (by repeat (first | (with_reducible first | exact HB.out | apply below_alloc | apply pw_below_drewN | apply below_drew1) | exact HB.out))) : w.heap.size ≤ gb104)); have n3_ := Aside0.mk ((by rw [hg]; exact (below_size (by repeat (first | (with_reducible first | exact HB.out | apply below_alloc | apply pw_below_drewN | apply below_drew1) | exact HB.out))) : w.heap.size ≤ gb104)); clear HB; have HB := n0_; have BK104 := n1_; have GW104 := n2_; have GE104 := n3_; clear n0_ n1_ n2_ n3_; clear hb hbox hg) | ((with_reducible refine gate_dst (N := 3) rfl ?_); refine box_event ?hg (N := 3) ?hd (cs := #[.int .i64 a1_0, .int .i64 a1_1, .float .f64 a1_2, .string a1_3, .slice A1_4 l1_4.length c1_4, .slice A1_5 l1_5.length c1_5]) (t := 31) ?hr ?_; (case hd => rfl); (case hg => rfl); (case hr => first | (go_simp; done) | (go_simp; rfl)); intro gb105 hg w19 hbox hb; have n0_ := Aside0.mk (blk_below (g := gb104) (o := .cells #[.int .i64 a0_0, .int .i64 a0_1, .float .f64 a0_2, .string a0_3, .slice A0_4 l0_4.length c0_4, .slice A0_5 l0_5.length c0_5] 31 (0, 0)) (by (with_reducible repeat (first | refine blk_drewN ?_ _ | refine blk_drew ?_ | refine blk_alloc ?_ _)); exact BK104.out) hb); have n1_ := Aside0.mk (below_step (by repeat (first | (with_reducible first | exact HB.out | apply below_alloc | apply pw_below_drewN | apply below_drew1 | refine below_set ?_ GE104.out) | exact HB.out)) hb); have n2_ := Aside0.mk (hbox); have n3_ := Aside0.mk ((by rw [hg]; exact (below_size (by repeat (first | (with_reducible first | exact HB.out | apply below_alloc | apply pw_below_drewN | apply below_drew1 | refine below_set ?_ GE104.out) | exact HB.out))) : w.heap.size ≤ gb105)); have n4_ := Aside0.mk ((by rw [hg]; exact (below_size (by repeat (first | (with_reducible first | exact HB.out | apply below_alloc | apply pw_below_drewN | apply below_drew1 | refine below_set ?_ GE104.out) | exact HB.out))) : w.heap.size ≤ gb105)); have n5_ := Aside0.mk ((by rw [hg]; exact Nat.ne_of_lt (blk_lt (g := gb104) (o := .cells #[.int .i64 a0_0, .int .i64 a0_1, .float .f64 a0_2, .string a0_3, .slice A0_4 l0_4.length c0_4, .slice A0_5 l0_5.length c0_5] 31 (0, 0)) (by (with_reducible repeat (first | refine blk_drewN ?_ _ | refine blk_drew ?_ | refine blk_alloc ?_ _)); exact BK104.out)) : gb104 ≠ gb105)); have n6_ := Aside0.mk ((by rw [hg]; exact Nat.ne_of_gt (blk_lt (g := gb104) (o := .cells #[.int .i64 a0_0, .int .i64 a0_1, .float .f64 a0_2, .string a0_3, .slice A0_4 l0_4.length c0_4, .slice A0_5 l0_5.length c0_5] 31 (0, 0)) (by (with_reducible repeat (first | refine blk_drewN ?_ _ | refine blk_drew ?_ | refine blk_alloc ?_ _)); exact BK104.out)) : gb105 ≠ gb104)); clear BK104; clear HB; have BK104 := n0_; have HB := n1_; have BK105 := n2_; have GW105 := n3_; have GE105 := n4_; have NB104_105 := n5_; have NB105_104 := n6_; clear n0_ n1_ n2_ n3_ n4_ n5_ n6_; clear hb hbox hg; have hnb20 := NB104_105.out; have hnc20 := NB105_104.out; have hcz21_0 : w19.cell? ⟨gb104, 0, none⟩ = some (.int .i64 a0_0) := (blk_cell BK104.out 0).trans rfl; have hcz21_1 : w19.cell? ⟨gb104, 1, none⟩ = some (.int .i64 a0_1) := (blk_cell BK104.out 1).trans rfl; have hcz21_2 : w19.cell? ⟨gb104, 2, none⟩ = some (.float .f64 a0_2) := (blk_cell BK104.out 2).trans rfl; have hcz21_3 : w19.cell? ⟨gb104, 3, none⟩ = some (.string a0_3) := (blk_cell BK104.out 3).trans rfl; have hcz21_4 : w19.cell? ⟨gb104, 4, none⟩ = some (.slice A0_4 l0_4.length c0_4) := (blk_cell BK104.out 4).trans rfl; have hcz21_5 : w19.cell? ⟨gb104, 5, none⟩ = some (.slice A0_5 l0_5.length c0_5) := (blk_cell BK104.out 5).trans rfl; have hfz21_0 := blk_frozen BK104.out 0; have hfz21_1 := blk_frozen BK104.out 1; have hfz21_2 := blk_frozen BK104.out 2; have hfz21_3 := blk_frozen BK104.out 3; have hfz21_4 := blk_frozen BK104.out 4; have hfz21_5 := blk_frozen BK104.out 5; have hcz22_0 : w19.cell? ⟨gb105, 0, none⟩ = some (.int .i64 a1_0) := (blk_cell BK105.out 0).trans rfl; have hcz22_1 : w19.cell? ⟨gb105, 1, none⟩ = some (.int .i64 a1_1) := (blk_cell BK105.out 1).trans rfl; have hcz22_2 : w19.cell? ⟨gb105, 2, none⟩ = some (.float .f64 a1_2) := (blk_cell BK105.out 2).trans rfl; have hcz22_3 : w19.cell? ⟨gb105, 3, none⟩ = some (.string a1_3) := (blk_cell BK105.out 3).trans rfl; have hcz22_4 : w19.cell? ⟨gb105, 4, none⟩ = some (.slice A1_4 l1_4.length c1_4) := (blk_cell BK105.out 4).trans rfl; have hcz22_5 : w19.cell? ⟨gb105, 5, none⟩ = some (.slice A1_5 l1_5.length c1_5) := (blk_cell BK105.out 5).trans rfl; have hfz22_0 := blk_frozen BK105.out 0; have hfz22_1 := blk_frozen BK105.out 1; have hfz22_2 := blk_frozen BK105.out 2; have hfz22_3 := blk_frozen BK105.out 3; have hfz22_4 := blk_frozen BK105.out 4; have hfz22_5 := blk_frozen BK105.out 5))
              go_ret
              exact ⟨by first | rfl | (simp [errW_none, errW_some] <;> rfl) | (simp [*, errW_none, errW_some] <;> rfl), by repeat (first | (with_reducible first | exact HB.out | apply below_alloc | apply pw_below_drewN | apply below_drew1 | refine below_set ?_ GE104.out | refine below_set ?_ GE105.out) | exact HB.out)⟩
        · rw [if_neg c11] at H
          have c11b0 : (FloatKind.f64.format.order a0_2 a0_2 != some Ordering.eq) = false := by simpa using c11
          (try (have c11b1 : decide (FloatKind.f64.format.order a0_2 a0_2 = some Ordering.eq) = true := by simpa using c11))
          (try (have c11b2 : (FloatKind.f64.format.order a0_2 a0_2 == some Ordering.eq) = true := by simpa using c11))
          clear c11
          as_aux_lemma =>
            obtain rfl := Option.some.inj H
            go_enter Try.func31, Try.ntmps31
            go_wp2_with (first | ((with_reducible refine gate_dst (N := 2) rfl ?_); refine box_event ?hg (N := 2) ?hd (cs := #[.int .i64 a0_0, .int .i64 a0_1, .float .f64 a0_2, .string a0_3, .slice A0_4 l0_4.length c0_4, .slice A0_5 l0_5.length c0_5]) (t := 31) ?hr ?_; (case hd => rfl); (case hg => rfl); (case hr => first | (go_simp; done) | (go_simp; rfl)); intro gb104 hg w23 hbox hb; have n0_ := Aside0.mk (below_step (by repeat (first | (with_reducible first | exact HB.out | apply below_alloc | apply pw_below_drewN | apply below_drew1) | exact HB.out)) hb); have n1_ := Aside0.mk (hbox); have n2_ := Aside0.mk ((by rw [hg]; exact (below_size (by repeat (first | (with_reducible first | exact HB.out | apply below_alloc | apply pw_below_drewN | apply below_drew1) | exact HB.out))) : w.heap.size ≤ gb104)); have n3_ := Aside0.mk ((by rw [hg]; exact (below_size (by repeat (first | (with_reducible first | exact HB.out | apply below_alloc | apply pw_below_drewN | apply below_drew1) | exact HB.out))) : w.heap.size ≤ gb104)); clear HB; have HB := n0_; have BK104 := n1_; have GW104 := n2_; have GE104 := n3_; clear n0_ n1_ n2_ n3_; clear hb hbox hg) | ((with_reducible refine gate_dst (N := 3) rfl ?_); refine box_event ?hg (N := 3) ?hd (cs := #[.int .i64 a1_0, .int .i64 a1_1, .float .f64 a1_2, .string a1_3, .slice A1_4 l1_4.length c1_4, .slice A1_5 l1_5.length c1_5]) (t := 31) ?hr ?_; (case hd => rfl); (case hg => rfl); (case hr => first | (go_simp; done) | (go_simp; rfl)); intro gb105 hg w24 hbox hb; have n0_ := Aside0.mk (blk_below (g := gb104) (o := .cells #[.int .i64 a0_0, .int .i64 a0_1, .float .f64 a0_2, .string a0_3, .slice A0_4 l0_4.length c0_4, .slice A0_5 l0_5.length c0_5] 31 (0, 0)) (by (with_reducible repeat (first | refine blk_drewN ?_ _ | refine blk_drew ?_ | refine blk_alloc ?_ _)); exact BK104.out) hb); have n1_ := Aside0.mk (below_step (by repeat (first | (with_reducible first | exact HB.out | apply below_alloc | apply pw_below_drewN | apply below_drew1 | refine below_set ?_ GE104.out) | exact HB.out)) hb); have n2_ := Aside0.mk (hbox); have n3_ := Aside0.mk ((by rw [hg]; exact (below_size (by repeat (first | (with_reducible first | exact HB.out | apply below_alloc | apply pw_below_drewN | apply below_drew1 | refine below_set ?_ GE104.out) | exact HB.out))) : w.heap.size ≤ gb105)); have n4_ := Aside0.mk ((by rw [hg]; exact (below_size (by repeat (first | (with_reducible first | exact HB.out | apply below_alloc | apply pw_below_drewN | apply below_drew1 | refine below_set ?_ GE104.out) | exact HB.out))) : w.heap.size ≤ gb105)); have n5_ := Aside0.mk ((by rw [hg]; exact Nat.ne_of_lt (blk_lt (g := gb104) (o := .cells #[.int .i64 a0_0, .int .i64 a0_1, .float .f64 a0_2, .string a0_3, .slice A0_4 l0_4.length c0_4, .slice A0_5 l0_5.length c0_5] 31 (0, 0)) (by (with_reducible repeat (first | refine blk_drewN ?_ _ | refine blk_drew ?_ | refine blk_alloc ?_ _)); exact BK104.out)) : gb104 ≠ gb105)); have n6_ := Aside0.mk ((by rw [hg]; exact Nat.ne_of_gt (blk_lt (g := gb104) (o := .cells #[.int .i64 a0_0, .int .i64 a0_1, .float .f64 a0_2, .string a0_3, .slice A0_4 l0_4.length c0_4, .slice A0_5 l0_5.length c0_5] 31 (0, 0)) (by (with_reducible repeat (first | refine blk_drewN ?_ _ | refine blk_drew ?_ | refine blk_alloc ?_ _)); exact BK104.out)) : gb105 ≠ gb104)); clear BK104; clear HB; have BK104 := n0_; have HB := n1_; have BK105 := n2_; have GW105 := n3_; have GE105 := n4_; have NB104_105 := n5_; have NB105_104 := n6_; clear n0_ n1_ n2_ n3_ n4_ n5_ n6_; clear hb hbox hg; have hnb25 := NB104_105.out; have hnc25 := NB105_104.out; have hcz26_0 : w24.cell? ⟨gb104, 0, none⟩ = some (.int .i64 a0_0) := (blk_cell BK104.out 0).trans rfl; have hcz26_1 : w24.cell? ⟨gb104, 1, none⟩ = some (.int .i64 a0_1) := (blk_cell BK104.out 1).trans rfl; have hcz26_2 : w24.cell? ⟨gb104, 2, none⟩ = some (.float .f64 a0_2) := (blk_cell BK104.out 2).trans rfl; have hcz26_3 : w24.cell? ⟨gb104, 3, none⟩ = some (.string a0_3) := (blk_cell BK104.out 3).trans rfl; have hcz26_4 : w24.cell? ⟨gb104, 4, none⟩ = some (.slice A0_4 l0_4.length c0_4) := (blk_cell BK104.out 4).trans rfl; have hcz26_5 : w24.cell? ⟨gb104, 5, none⟩ = some (.slice A0_5 l0_5.length c0_5) := (blk_cell BK104.out 5).trans rfl; have hfz26_0 := blk_frozen BK104.out 0; have hfz26_1 := blk_frozen BK104.out 1; have hfz26_2 := blk_frozen BK104.out 2; have hfz26_3 := blk_frozen BK104.out 3; have hfz26_4 := blk_frozen BK104.out 4; have hfz26_5 := blk_frozen BK104.out 5; have hcz27_0 : w24.cell? ⟨gb105, 0, none⟩ = some (.int .i64 a1_0) := (blk_cell BK105.out 0).trans rfl; have hcz27_1 : w24.cell? ⟨gb105, 1, none⟩ = some (.int .i64 a1_1) := (blk_cell BK105.out 1).trans rfl; have hcz27_2 : w24.cell? ⟨gb105, 2, none⟩ = some (.float .f64 a1_2) := (blk_cell BK105.out 2).trans rfl; have hcz27_3 : w24.cell? ⟨gb105, 3, none⟩ = some (.string a1_3) := (blk_cell BK105.out 3).trans rfl; have hcz27_4 : w24.cell? ⟨gb105, 4, none⟩ = some (.slice A1_4 l1_4.length c1_4) := (blk_cell BK105.out 4).trans rfl; have hcz27_5 : w24.cell? ⟨gb105, 5, none⟩ = some (.slice A1_5 l1_5.length c1_5) := (blk_cell BK105.out 5).trans rfl; have hfz27_0 := blk_frozen BK105.out 0; have hfz27_1 := blk_frozen BK105.out 1; have hfz27_2 := blk_frozen BK105.out 2; have hfz27_3 := blk_frozen BK105.out 3; have hfz27_4 := blk_frozen BK105.out 4; have hfz27_5 := blk_frozen BK105.out 5))
            go_ret
            exact ⟨by first | rfl | (simp [errW_none, errW_some] <;> rfl) | (simp [*, errW_none, errW_some] <;> rfl), by repeat (first | (with_reducible first | exact HB.out | apply below_alloc | apply pw_below_drewN | apply below_drew1 | refine below_set ?_ GE104.out | refine below_set ?_ GE105.out) | exact HB.out)⟩
    · rw [if_neg c4] at H
      have c4b0 : (a0_1 == a1_1) = false := beq_eq_false_iff_ne.mpr c4
      have c4b1 : (a0_1 != a1_1) = true := bne_iff_ne.mpr c4
      as_aux_lemma =>
        obtain rfl := Option.some.inj H
        go_enter Try.func31, Try.ntmps31
        go_wp2_with (first | ((with_reducible refine gate_dst (N := 2) rfl ?_); refine box_event ?hg (N := 2) ?hd (cs := #[.int .i64 a0_0, .int .i64 a0_1, .float .f64 a0_2, .string a0_3, .slice A0_4 l0_4.length c0_4, .slice A0_5 l0_5.length c0_5]) (t := 31) ?hr ?_; (case hd => rfl); (case hg => rfl); (case hr => first | (go_simp; done) | (go_simp; rfl)); intro gb104 hg w28 hbox hb; have n0_ := Aside0.mk (below_step (by repeat (first | (with_reducible first | exact HB.out | apply below_alloc | apply pw_below_drewN | apply below_drew1) | exact HB.out)) hb); have n1_ := Aside0.mk (hbox); have n2_ := Aside0.mk ((by rw [hg]; exact (below_size (by repeat (first | (with_reducible first | exact HB.out | apply below_alloc | apply pw_below_drewN | apply below_drew1) | exact HB.out))) : w.heap.size ≤ gb104)); have n3_ := Aside0.mk ((by rw [hg]; exact (below_size (by repeat (first | (with_reducible first | exact HB.out | apply below_alloc | apply pw_below_drewN | apply below_drew1) | exact HB.out))) : w.heap.size ≤ gb104)); clear HB; have HB := n0_; have BK104 := n1_; have GW104 := n2_; have GE104 := n3_; clear n0_ n1_ n2_ n3_; clear hb hbox hg) | ((with_reducible refine gate_dst (N := 3) rfl ?_); refine box_event ?hg (N := 3) ?hd (cs := #[.int .i64 a1_0, .int .i64 a1_1, .float .f64 a1_2, .string a1_3, .slice A1_4 l1_4.length c1_4, .slice A1_5 l1_5.length c1_5]) (t := 31) ?hr ?_; (case hd => rfl); (case hg => rfl); (case hr => first | (go_simp; done) | (go_simp; rfl)); intro gb105 hg w29 hbox hb; have n0_ := Aside0.mk (blk_below (g := gb104) (o := .cells #[.int .i64 a0_0, .int .i64 a0_1, .float .f64 a0_2, .string a0_3, .slice A0_4 l0_4.length c0_4, .slice A0_5 l0_5.length c0_5] 31 (0, 0)) (by (with_reducible repeat (first | refine blk_drewN ?_ _ | refine blk_drew ?_ | refine blk_alloc ?_ _)); exact BK104.out) hb); have n1_ := Aside0.mk (below_step (by repeat (first | (with_reducible first | exact HB.out | apply below_alloc | apply pw_below_drewN | apply below_drew1 | refine below_set ?_ GE104.out) | exact HB.out)) hb); have n2_ := Aside0.mk (hbox); have n3_ := Aside0.mk ((by rw [hg]; exact (below_size (by repeat (first | (with_reducible first | exact HB.out | apply below_alloc | apply pw_below_drewN | apply below_drew1 | refine below_set ?_ GE104.out) | exact HB.out))) : w.heap.size ≤ gb105)); have n4_ := Aside0.mk ((by rw [hg]; exact (below_size (by repeat (first | (with_reducible first | exact HB.out | apply below_alloc | apply pw_below_drewN | apply below_drew1 | refine below_set ?_ GE104.out) | exact HB.out))) : w.heap.size ≤ gb105)); have n5_ := Aside0.mk ((by rw [hg]; exact Nat.ne_of_lt (blk_lt (g := gb104) (o := .cells #[.int .i64 a0_0, .int .i64 a0_1, .float .f64 a0_2, .string a0_3, .slice A0_4 l0_4.length c0_4, .slice A0_5 l0_5.length c0_5] 31 (0, 0)) (by (with_reducible repeat (first | refine blk_drewN ?_ _ | refine blk_drew ?_ | refine blk_alloc ?_ _)); exact BK104.out)) : gb104 ≠ gb105)); have n6_ := Aside0.mk ((by rw [hg]; exact Nat.ne_of_gt (blk_lt (g := gb104) (o := .cells #[.int .i64 a0_0, .int .i64 a0_1, .float .f64 a0_2, .string a0_3, .slice A0_4 l0_4.length c0_4, .slice A0_5 l0_5.length c0_5] 31 (0, 0)) (by (with_reducible repeat (first | refine blk_drewN ?_ _ | refine blk_drew ?_ | refine blk_alloc ?_ _)); exact BK104.out)) : gb105 ≠ gb104)); clear BK104; clear HB; have BK104 := n0_; have HB := n1_; have BK105 := n2_; have GW105 := n3_; have GE105 := n4_; have NB104_105 := n5_; have NB105_104 := n6_; clear n0_ n1_ n2_ n3_ n4_ n5_ n6_; clear hb hbox hg; have hnb30 := NB104_105.out; have hnc30 := NB105_104.out; have hcz31_0 : w29.cell? ⟨gb104, 0, none⟩ = some (.int .i64 a0_0) := (blk_cell BK104.out 0).trans rfl; have hcz31_1 : w29.cell? ⟨gb104, 1, none⟩ = some (.int .i64 a0_1) := (blk_cell BK104.out 1).trans rfl; have hcz31_2 : w29.cell? ⟨gb104, 2, none⟩ = some (.float .f64 a0_2) := (blk_cell BK104.out 2).trans rfl; have hcz31_3 : w29.cell? ⟨gb104, 3, none⟩ = some (.string a0_3) := (blk_cell BK104.out 3).trans rfl; have hcz31_4 : w29.cell? ⟨gb104, 4, none⟩ = some (.slice A0_4 l0_4.length c0_4) := (blk_cell BK104.out 4).trans rfl; have hcz31_5 : w29.cell? ⟨gb104, 5, none⟩ = some (.slice A0_5 l0_5.length c0_5) := (blk_cell BK104.out 5).trans rfl; have hfz31_0 := blk_frozen BK104.out 0; have hfz31_1 := blk_frozen BK104.out 1; have hfz31_2 := blk_frozen BK104.out 2; have hfz31_3 := blk_frozen BK104.out 3; have hfz31_4 := blk_frozen BK104.out 4; have hfz31_5 := blk_frozen BK104.out 5; have hcz32_0 : w29.cell? ⟨gb105, 0, none⟩ = some (.int .i64 a1_0) := (blk_cell BK105.out 0).trans rfl; have hcz32_1 : w29.cell? ⟨gb105, 1, none⟩ = some (.int .i64 a1_1) := (blk_cell BK105.out 1).trans rfl; have hcz32_2 : w29.cell? ⟨gb105, 2, none⟩ = some (.float .f64 a1_2) := (blk_cell BK105.out 2).trans rfl; have hcz32_3 : w29.cell? ⟨gb105, 3, none⟩ = some (.string a1_3) := (blk_cell BK105.out 3).trans rfl; have hcz32_4 : w29.cell? ⟨gb105, 4, none⟩ = some (.slice A1_4 l1_4.length c1_4) := (blk_cell BK105.out 4).trans rfl; have hcz32_5 : w29.cell? ⟨gb105, 5, none⟩ = some (.slice A1_5 l1_5.length c1_5) := (blk_cell BK105.out 5).trans rfl; have hfz32_0 := blk_frozen BK105.out 0; have hfz32_1 := blk_frozen BK105.out 1; have hfz32_2 := blk_frozen BK105.out 2; have hfz32_3 := blk_frozen BK105.out 3; have hfz32_4 := blk_frozen BK105.out 4; have hfz32_5 := blk_frozen BK105.out 5))
        go_ret
        exact ⟨by first | rfl | (simp [errW_none, errW_some] <;> rfl) | (simp [*, errW_none, errW_some] <;> rfl), by repeat (first | (with_reducible first | exact HB.out | apply below_alloc | apply pw_below_drewN | apply below_drew1 | refine below_set ?_ GE104.out | refine below_set ?_ GE105.out) | exact HB.out)⟩
  · rw [if_neg c3] at H
    have c3b0 : (a0_0 == a1_0) = false := beq_eq_false_iff_ne.mpr c3
    have c3b1 : (a0_0 != a1_0) = true := bne_iff_ne.mpr c3
    as_aux_lemma =>
      obtain rfl := Option.some.inj H
      go_enter Try.func31, Try.ntmps31
      go_wp2_with (first | ((with_reducible refine gate_dst (N := 2) rfl ?_); refine box_event ?hg (N := 2) ?hd (cs := #[.int .i64 a0_0, .int .i64 a0_1, .float .f64 a0_2, .string a0_3, .slice A0_4 l0_4.length c0_4, .slice A0_5 l0_5.length c0_5]) (t := 31) ?hr ?_; (case hd => rfl); (case hg => rfl); (case hr => first | (go_simp; done) | (go_simp; rfl)); intro gb104 hg w33 hbox hb; have n0_ := Aside0.mk (below_step (by repeat (first | (with_reducible first | exact HB.out | apply below_alloc | apply pw_below_drewN | apply below_drew1) | exact HB.out)) hb); have n1_ := Aside0.mk (hbox); have n2_ := Aside0.mk ((by rw [hg]; exact (below_size (by repeat (first | (with_reducible first | exact HB.out | apply below_alloc | apply pw_below_drewN | apply below_drew1) | exact HB.out))) : w.heap.size ≤ gb104)); have n3_ := Aside0.mk ((by rw [hg]; exact (below_size (by repeat (first | (with_reducible first | exact HB.out | apply below_alloc | apply pw_below_drewN | apply below_drew1) | exact HB.out))) : w.heap.size ≤ gb104)); clear HB; have HB := n0_; have BK104 := n1_; have GW104 := n2_; have GE104 := n3_; clear n0_ n1_ n2_ n3_; clear hb hbox hg) | ((with_reducible refine gate_dst (N := 3) rfl ?_); refine box_event ?hg (N := 3) ?hd (cs := #[.int .i64 a1_0, .int .i64 a1_1, .float .f64 a1_2, .string a1_3, .slice A1_4 l1_4.length c1_4, .slice A1_5 l1_5.length c1_5]) (t := 31) ?hr ?_; (case hd => rfl); (case hg => rfl); (case hr => first | (go_simp; done) | (go_simp; rfl)); intro gb105 hg w34 hbox hb; have n0_ := Aside0.mk (blk_below (g := gb104) (o := .cells #[.int .i64 a0_0, .int .i64 a0_1, .float .f64 a0_2, .string a0_3, .slice A0_4 l0_4.length c0_4, .slice A0_5 l0_5.length c0_5] 31 (0, 0)) (by (with_reducible repeat (first | refine blk_drewN ?_ _ | refine blk_drew ?_ | refine blk_alloc ?_ _)); exact BK104.out) hb); have n1_ := Aside0.mk (below_step (by repeat (first | (with_reducible first | exact HB.out | apply below_alloc | apply pw_below_drewN | apply below_drew1 | refine below_set ?_ GE104.out) | exact HB.out)) hb); have n2_ := Aside0.mk (hbox); have n3_ := Aside0.mk ((by rw [hg]; exact (below_size (by repeat (first | (with_reducible first | exact HB.out | apply below_alloc | apply pw_below_drewN | apply below_drew1 | refine below_set ?_ GE104.out) | exact HB.out))) : w.heap.size ≤ gb105)); have n4_ := Aside0.mk ((by rw [hg]; exact (below_size (by repeat (first | (with_reducible first | exact HB.out | apply below_alloc | apply pw_below_drewN | apply below_drew1 | refine below_set ?_ GE104.out) | exact HB.out))) : w.heap.size ≤ gb105)); have n5_ := Aside0.mk ((by rw [hg]; exact Nat.ne_of_lt (blk_lt (g := gb104) (o := .cells #[.int .i64 a0_0, .int .i64 a0_1, .float .f64 a0_2, .string a0_3, .slice A0_4 l0_4.length c0_4, .slice A0_5 l0_5.length c0_5] 31 (0, 0)) (by (with_reducible repeat (first | refine blk_drewN ?_ _ | refine blk_drew ?_ | refine blk_alloc ?_ _)); exact BK104.out)) : gb104 ≠ gb105)); have n6_ := Aside0.mk ((by rw [hg]; exact Nat.ne_of_gt (blk_lt (g := gb104) (o := .cells #[.int .i64 a0_0, .int .i64 a0_1, .float .f64 a0_2, .string a0_3, .slice A0_4 l0_4.length c0_4, .slice A0_5 l0_5.length c0_5] 31 (0, 0)) (by (with_reducible repeat (first | refine blk_drewN ?_ _ | refine blk_drew ?_ | refine blk_alloc ?_ _)); exact BK104.out)) : gb105 ≠ gb104)); clear BK104; clear HB; have BK104 := n0_; have HB := n1_; have BK105 := n2_; have GW105 := n3_; have GE105 := n4_; have NB104_105 := n5_; have NB105_104 := n6_; clear n0_ n1_ n2_ n3_ n4_ n5_ n6_; clear hb hbox hg; have hnb35 := NB104_105.out; have hnc35 := NB105_104.out; have hcz36_0 : w34.cell? ⟨gb104, 0, none⟩ = some (.int .i64 a0_0) := (blk_cell BK104.out 0).trans rfl; have hcz36_1 : w34.cell? ⟨gb104, 1, none⟩ = some (.int .i64 a0_1) := (blk_cell BK104.out 1).trans rfl; have hcz36_2 : w34.cell? ⟨gb104, 2, none⟩ = some (.float .f64 a0_2) := (blk_cell BK104.out 2).trans rfl; have hcz36_3 : w34.cell? ⟨gb104, 3, none⟩ = some (.string a0_3) := (blk_cell BK104.out 3).trans rfl; have hcz36_4 : w34.cell? ⟨gb104, 4, none⟩ = some (.slice A0_4 l0_4.length c0_4) := (blk_cell BK104.out 4).trans rfl; have hcz36_5 : w34.cell? ⟨gb104, 5, none⟩ = some (.slice A0_5 l0_5.length c0_5) := (blk_cell BK104.out 5).trans rfl; have hfz36_0 := blk_frozen BK104.out 0; have hfz36_1 := blk_frozen BK104.out 1; have hfz36_2 := blk_frozen BK104.out 2; have hfz36_3 := blk_frozen BK104.out 3; have hfz36_4 := blk_frozen BK104.out 4; have hfz36_5 := blk_frozen BK104.out 5; have hcz37_0 : w34.cell? ⟨gb105, 0, none⟩ = some (.int .i64 a1_0) := (blk_cell BK105.out 0).trans rfl; have hcz37_1 : w34.cell? ⟨gb105, 1, none⟩ = some (.int .i64 a1_1) := (blk_cell BK105.out 1).trans rfl; have hcz37_2 : w34.cell? ⟨gb105, 2, none⟩ = some (.float .f64 a1_2) := (blk_cell BK105.out 2).trans rfl; have hcz37_3 : w34.cell? ⟨gb105, 3, none⟩ = some (.string a1_3) := (blk_cell BK105.out 3).trans rfl; have hcz37_4 : w34.cell? ⟨gb105, 4, none⟩ = some (.slice A1_4 l1_4.length c1_4) := (blk_cell BK105.out 4).trans rfl; have hcz37_5 : w34.cell? ⟨gb105, 5, none⟩ = some (.slice A1_5 l1_5.length c1_5) := (blk_cell BK105.out 5).trans rfl; have hfz37_0 := blk_frozen BK105.out 0; have hfz37_1 := blk_frozen BK105.out 1; have hfz37_2 := blk_frozen BK105.out 2; have hfz37_3 := blk_frozen BK105.out 3; have hfz37_4 := blk_frozen BK105.out 4; have hfz37_5 := blk_frozen BK105.out 5))
      go_ret
      exact ⟨by first | rfl | (simp [errW_none, errW_some] <;> rfl) | (simp [*, errW_none, errW_some] <;> rfl), by repeat (first | (with_reducible first | exact HB.out | apply below_alloc | apply pw_below_drewN | apply below_drew1 | refine below_set ?_ GE104.out | refine below_set ?_ GE105.out) | exact HB.out)⟩

end Go.Proofs.Ytffkinonnkbcpaa.P
