-- WRITTEN by xprint.py (a program of this session, over the kit's print) out of the translation. Not trusted: Lean checks it.
import Derived.Test.YtffkinonnkbcpaaPx0
import Derived.Test.YtffkinonnkbcpaaPx1
import Derived.Test.YtffkinonnkbcpaaPx2
namespace Go.Proofs.Ytffkinonnkbcpaa.P
open Go.RowKit Go.Proofs.YtffkinonnkbcpaaW.PrintWords Go.Proofs.YtffkinonnkbcpaaW.PrintLast Go.Proofs.YtffkinonnkbcpaaW.PrintMore
attribute [local go_sem] max2_int min2_int max_two min_two max_three min_three max_four min_four run_store_float   -- for this text's walks alone
set_option linter.unusedVariables false
set_option linter.unusedSimpArgs false

/-! ### spec_AllRight: function 6 -/
mutual
def spec_AllRight.l0 : Nat → List (S31) → Int → Int → Option (Bool)
  | 0, _, _, _ => none
  | k + 1, x0, x3, x4 => if x4 < (x0.length : Int) then (spec_AllRight.j1 k x0 x3 x4 (decide ((x0.length : Int) ≤ 60))) else (spec_AllRight.j1 k x0 x3 x4 false)
def spec_AllRight.j1 : Nat → List (S31) → Int → Int → Bool → Option (Bool)
  | 0, _, _, _, _ => none
  | k + 1, x0, x3, x4, x13 => if x13 = true then (if 0 ≤ x4 then (if x4 < (x0.length : Int) then ((spec_weigh.f k ((rd_T31 x0 x4).f0) ((rd_T31 x0 x4).f1) ((rd_T31 x0 x4).f2) ((rd_T31 x0 x4).f3) ((rd_T31 x0 x4).f4) ((rd_T31 x0 x4).f5) x3 8).bind fun t116 => (if t116 < 0 then (some false) else ((spec_right.f k ((rd_T31 x0 x4).f0) ((rd_T31 x0 x4).f1) ((rd_T31 x0 x4).f2) ((rd_T31 x0 x4).f3) ((rd_T31 x0 x4).f4) ((rd_T31 x0 x4).f5) 8).bind fun t118 => (if t118 = true then (spec_AllRight.l0 k x0 t116 (wrap64 (x4 + 1))) else (some false))))) else (none)) else (none)) else (some (decide ((x0.length : Int) ≤ 60)))
end
def spec_AllRight.f (k : Nat) (l0 : List (S31)) : Option (Bool) := spec_AllRight.l0 k l0 300 0
theorem spec_AllRight.mono_l : ∀ k, (∀ y0 y1 y2, LeO (spec_AllRight.l0 k y0 y1 y2) (spec_AllRight.l0 (k + 1) y0 y1 y2)) ∧ (∀ y0 y1 y2 y3, LeO (spec_AllRight.j1 k y0 y1 y2 y3) (spec_AllRight.j1 (k + 1) y0 y1 y2 y3))
  | 0 => ⟨fun _ _ _ r h => by simp [spec_AllRight.l0] at h, fun _ _ _ _ r h => by simp [spec_AllRight.j1] at h⟩
  | k + 1 => by
    obtain ⟨ih0, ih1⟩ := spec_AllRight.mono_l k
    refine ⟨?_, ?_⟩
    · intro y0 y1 y2
      unfold spec_AllRight.l0
      repeat' first
      | (with_reducible exact ih0 _ _ _)
      | (with_reducible exact ih1 _ _ _ _)
      | (with_reducible exact spec_right.mono _ _ _ _ _ _ _ _)
      | (with_reducible exact spec_weigh.mono _ _ _ _ _ _ _ _ _)
      | (with_reducible exact LeO.refl _)
      | (with_reducible exact LeO.none _)
      | (with_reducible refine LeO.ite ?_ ?_)
      | (with_reducible refine LeO.bind ?_ (fun _ => ?_))
      | exact ih0 _ _ _
      | exact ih1 _ _ _ _
      | exact spec_right.mono _ _ _ _ _ _ _ _
      | exact spec_weigh.mono _ _ _ _ _ _ _ _ _
      | exact LeO.none _
      | refine LeO.ite ?_ ?_
      | refine LeO.bind ?_ (fun _ => ?_)
    · intro y0 y1 y2 y3
      unfold spec_AllRight.j1
      repeat' first
      | (with_reducible exact ih0 _ _ _)
      | (with_reducible exact ih1 _ _ _ _)
      | (with_reducible exact spec_right.mono _ _ _ _ _ _ _ _)
      | (with_reducible exact spec_weigh.mono _ _ _ _ _ _ _ _ _)
      | (with_reducible exact LeO.refl _)
      | (with_reducible exact LeO.none _)
      | (with_reducible refine LeO.ite ?_ ?_)
      | (with_reducible refine LeO.bind ?_ (fun _ => ?_))
      | exact ih0 _ _ _
      | exact ih1 _ _ _ _
      | exact spec_right.mono _ _ _ _ _ _ _ _
      | exact spec_weigh.mono _ _ _ _ _ _ _ _ _
      | exact LeO.none _
      | refine LeO.ite ?_ ?_
      | refine LeO.bind ?_ (fun _ => ?_)
theorem spec_AllRight.mono : ∀ a0 k, LeO (spec_AllRight.f k a0) (spec_AllRight.f (k + 1) a0) := by
  intro a0 k
  obtain ⟨ih0, ih1⟩ := spec_AllRight.mono_l k
  unfold spec_AllRight.f
  repeat' first
      | (with_reducible exact ih0 _ _ _)
      | (with_reducible exact ih1 _ _ _ _)
      | (with_reducible exact spec_right.mono _ _ _ _ _ _ _ _)
      | (with_reducible exact spec_weigh.mono _ _ _ _ _ _ _ _ _)
      | (with_reducible exact LeO.refl _)
      | (with_reducible exact LeO.none _)
      | (with_reducible refine LeO.ite ?_ ?_)
      | (with_reducible refine LeO.bind ?_ (fun _ => ?_))
      | exact ih0 _ _ _
      | exact ih1 _ _ _ _
      | exact spec_right.mono _ _ _ _ _ _ _ _
      | exact spec_weigh.mono _ _ _ _ _ _ _ _ _
      | exact LeO.none _
      | refine LeO.ite ?_ ?_
      | refine LeO.bind ?_ (fun _ => ?_)
set_option maxHeartbeats 8000000 in
set_option maxRecDepth 100000 in
theorem spec_AllRight.calls (k : Nat) (A0 : Option Addr) (c0 : Nat) (l0 : List (S31)) (r : Bool) (w : World) (hr0 : Kd.C k31 w A0 l0.length l0) (hc0 : l0.length ≤ c0) (h : spec_AllRight.f k l0 = some r) :
    Calls Try.prog 6 #[.slice A0 l0.length c0] w fun e w' => e = .returned (.bool r) ∧ Below w.heap.size w w' := by
  have hu31 := Try.underlying31
  have HR0 := Aside0.mk hr0
  have HC0 := Aside0.mk hc0
  clear hr0 hc0
  have HB := Aside0.mk (Below.refl w.heap.size w)
  have H : (spec_AllRight.l0 k l0 300 0) = some r := h
  clear h
  have H' := Aside0.mk H
  clear H
  go_enter Try.func6, Try.ntmps6
  go_wp2
  go_loopg [3, 4] k (fun kq v3 v4 w' => ∃ (x3_1 : Int) (x4_1 : Int), v3 = .int .i64 x3_1 ∧ v4 = .int .i64 x4_1 ∧ Aside0 (spec_AllRight.l0 kq l0 x3_1 x4_1 = some r) ∧ Aside0 (kq ≤ k) ∧ Aside0 (Below w.heap.size w w'))
  case atStart => exact ⟨(300), (0), (by first | rfl | (simp only [bytesLe_not]; done) | (simp; done) | (simp [*]; done)), (by first | rfl | (simp only [bytesLe_not]; done) | (simp; done) | (simp [*]; done)), H', ⟨Nat.le_refl _⟩, ⟨by repeat (first | (with_reducible first | exact HB.out | apply below_alloc | apply pw_below_drewN | apply below_drew1) | exact HB.out)⟩⟩
  case round =>
    clear H'
    obtain ⟨x3_1, x4_1, rfl, rfl, HA, HK1, HB⟩ := hrel
    cases gk with
    | zero => exact absurd HA.out (by simp [spec_AllRight.l0])
    | succ k1 =>
      have H := HA.out
      clear HA
      simp only [spec_AllRight.l0] at H
      have HC2 := Aside0.mk H
      clear H
      go_upto_region 3 with (fail)
      go_cut [13] (fun v13 wc => ∃ (kq : Nat) (x13_1 : Bool), v13 = .bool x13_1 ∧ Aside0 (spec_AllRight.j1 kq l0 x3_1 x4_1 x13_1 = some r) ∧ Aside0 (kq ≤ k1) ∧ Aside0 (Below w.heap.size w wc))
      case first =>
        have H := HC2.out
        clear HC2
        by_cases c3 : x4_1 < (l0.length : Int)
        · rw [if_pos c3] at H
          have c3b0 : decide (x4_1 < (l0.length : Int)) = true := decide_eq_true c3
          clear c3
          (first | rw [c3b0] | (simp only [i64_w, i32_w]; rw [c3b0]) | skip)
          as_aux_lemma =>
            have H' := Aside0.mk H
            clear H
            go_wp2
            go_meet
            case rel => exact ⟨_, (decide ((l0.length : Int) ≤ 60)), (by first | rfl | (simp only [bytesLe_not]; done) | (simp; done) | (simp [*]; done)), H', ⟨by have := HK1.out; first | omega | exact Nat.le_refl _⟩, ⟨by repeat (first | (with_reducible first | exact HB.out | apply below_alloc | apply pw_below_drewN | apply below_drew1) | exact HB.out)⟩⟩
        · rw [if_neg c3] at H
          have c3b0 : decide (x4_1 < (l0.length : Int)) = false := decide_eq_false c3
          clear c3
          (first | rw [c3b0] | (simp only [i64_w, i32_w]; rw [c3b0]) | skip)
          as_aux_lemma =>
            have H' := Aside0.mk H
            clear H
            go_wp2
            go_meet
            case rel => exact ⟨_, (false), (by first | rfl | (simp only [bytesLe_not]; done) | (simp; done) | (simp [*]; done)), H', ⟨by have := HK1.out; first | omega | exact Nat.le_refl _⟩, ⟨by repeat (first | (with_reducible first | exact HB.out | apply below_alloc | apply pw_below_drewN | apply below_drew1) | exact HB.out)⟩⟩
      case rest =>
        clear HC2
        try clear p2
        try clear c3
        try clear c3b0
        obtain ⟨kq, x13_1, rfl, HA, HJ1, HB⟩ := hcut
        cases kq with
        | zero => exact absurd HA.out (by simp [spec_AllRight.j1])
        | succ kj1 =>
          have H := HA.out
          clear HA
          simp only [spec_AllRight.j1] at H
          by_cases c4 : x13_1 = true
          · subst c4
            have H1 : (if 0 ≤ x4_1 then (if x4_1 < (l0.length : Int) then ((spec_weigh.f kj1 ((rd_T31 l0 x4_1).f0) ((rd_T31 l0 x4_1).f1) ((rd_T31 l0 x4_1).f2) ((rd_T31 l0 x4_1).f3) ((rd_T31 l0 x4_1).f4) ((rd_T31 l0 x4_1).f5) x3_1 8).bind fun t116 => (if t116 < 0 then (some false) else ((spec_right.f kj1 ((rd_T31 l0 x4_1).f0) ((rd_T31 l0 x4_1).f1) ((rd_T31 l0 x4_1).f2) ((rd_T31 l0 x4_1).f3) ((rd_T31 l0 x4_1).f4) ((rd_T31 l0 x4_1).f5) 8).bind fun t118 => (if t118 = true then (spec_AllRight.l0 kj1 l0 t116 (wrap64 (x4_1 + 1))) else (some false))))) else (none)) else (none)) = some r := by rw [if_pos rfl] at H; exact H
            clear H
            have H := H1
            clear H1
            by_cases c5 : 0 ≤ x4_1
            · rw [if_pos c5] at H
              have c5b0 : decide (0 ≤ x4_1) = true := decide_eq_true c5
              clear c5
              by_cases c6 : x4_1 < (l0.length : Int)
              · rw [if_pos c6] at H
                have c6b0 : decide (x4_1 < (l0.length : Int)) = true := decide_eq_true c6
                clear c6
                replace H := Option.bind_eq_some_iff.mp H
                obtain ⟨t116, A70, H⟩ := H
                replace H : (if t116 < 0 then (some false) else ((spec_right.f kj1 ((rd_T31 l0 x4_1).f0) ((rd_T31 l0 x4_1).f1) ((rd_T31 l0 x4_1).f2) ((rd_T31 l0 x4_1).f3) ((rd_T31 l0 x4_1).f4) ((rd_T31 l0 x4_1).f5) 8).bind fun t118 => (if t118 = true then (spec_AllRight.l0 kj1 l0 t116 (wrap64 (x4_1 + 1))) else (some false)))) = some r := H
                have A7 := Aside0.mk A70
                clear A70
                by_cases c8 : t116 < 0
                · rw [if_pos c8] at H
                  have c8b0 : decide (t116 < 0) = true := decide_eq_true c8
                  clear c8
                  as_aux_lemma =>
                    obtain rfl := Option.some.inj H
                    have p115 : 0 ≤ (x4_1 : Int) := of_decide_eq_true (by first | (with_reducible assumption) | assumption)
                    have q115 : x4_1 < (l0.length : Int) := of_decide_eq_true (by first | (with_reducible assumption) | assumption)
                    obtain ⟨ad115, A115_4, c115_4, A115_5, c115_5, e115, hx115_0, hx115_1, hx115_2, hx115_3, hx115_4, hx115_5, hl115_4, hi115_4, hl115_5, hi115_5⟩ := at_T31 HR0.out x4_1 p115 q115
                    cases e115
                    replace hx115_0 := (HB.out.cell (World.block_lt_of_cell? w _ hx115_0)).trans hx115_0
                    replace hx115_1 := (HB.out.cell (World.block_lt_of_cell? w _ hx115_1)).trans hx115_1
                    replace hx115_2 := (HB.out.cell (World.block_lt_of_cell? w _ hx115_2)).trans hx115_2
                    replace hx115_3 := (HB.out.cell (World.block_lt_of_cell? w _ hx115_3)).trans hx115_3
                    replace hx115_4 := (HB.out.cell (World.block_lt_of_cell? w _ hx115_4)).trans hx115_4
                    replace hx115_5 := (HB.out.cell (World.block_lt_of_cell? w _ hx115_5)).trans hx115_5
                    have HR115_4 := Aside0.mk hi115_4
                    have HC115_4 := Aside0.mk hl115_4
                    clear hi115_4 hl115_4
                    have HR115_5 := Aside0.mk hi115_5
                    have HC115_5 := Aside0.mk hl115_5
                    clear hi115_5 hl115_5
                    replace p115 := eq_true p115
                    replace q115 := eq_true q115
                    go_wp2_with (first | ((with_reducible refine gate_callee (f := 16) rfl ?_); refine goesL_ (some 21) rfl rfl Try.func16 (by kernel_rfl) rfl #[.agg #[.int .i64 ((rd_T31 l0 x4_1).f0), .int .i64 ((rd_T31 l0 x4_1).f1), .float .f64 ((rd_T31 l0 x4_1).f2), .string ((rd_T31 l0 x4_1).f3), .slice A115_4 ((rd_T31 l0 x4_1).f4).length c115_4, .slice A115_5 ((rd_T31 l0 x4_1).f5).length c115_5], .int .i64 x3_1, .int .i64 8] rfl (by (try simp only [List.map_toArray, List.map_cons, List.map_nil]); first | done | rfl | (simp only [List.length_drop, List.length_take]; rfl)) ?_; (with_reducible refine (spec_weigh.calls kj1 ((rd_T31 l0 x4_1).f0) ((rd_T31 l0 x4_1).f1) ((rd_T31 l0 x4_1).f2) ((rd_T31 l0 x4_1).f3) _ _ ((rd_T31 l0 x4_1).f4) _ _ ((rd_T31 l0 x4_1).f5) x3_1 8 t116 _ ?side1 ?side2 ?side3 ?side4 A7.out).mono ?_); (case side1 => repeat (first | exact (Kd.C_below HR115_4.out HB.out) | (with_reducible refine Kd.C_alloc ?_ _) | (with_reducible refine Kd.C_drewN ?_ _) | (with_reducible refine Kd.C_drew ?_))); (case side2 => exact HC115_4.out); (case side3 => repeat (first | exact (Kd.C_below HR115_5.out HB.out) | (with_reducible refine Kd.C_alloc ?_ _) | (with_reducible refine Kd.C_drewN ?_ _) | (with_reducible refine Kd.C_drew ?_))); (case side4 => exact HC115_5.out); rintro e w9 ⟨rfl, hb⟩; refine ⟨_, rfl, ?_⟩; have n0_ := Aside0.mk (below_step (by repeat (first | (with_reducible first | exact HB.out | apply below_alloc | apply pw_below_drewN | apply below_drew1) | exact HB.out)) hb); clear HB; have HB := n0_; clear n0_; (try clear hb); (try clear hb2); (try clear hk); (try clear hi)))
                    go_ret
                    exact ⟨by first | rfl | (simp [errW_none, errW_some] <;> rfl) | (simp [*, errW_none, errW_some] <;> rfl), by repeat (first | (with_reducible first | exact HB.out | apply below_alloc | apply pw_below_drewN | apply below_drew1) | exact HB.out)⟩
                · rw [if_neg c8] at H
                  have c8b0 : decide (t116 < 0) = false := decide_eq_false c8
                  clear c8
                  replace H := Option.bind_eq_some_iff.mp H
                  obtain ⟨t118, A100, H⟩ := H
                  replace H : (if t118 = true then (spec_AllRight.l0 kj1 l0 t116 (wrap64 (x4_1 + 1))) else (some false)) = some r := H
                  have A10 := Aside0.mk A100
                  clear A100
                  by_cases c11 : t118 = true
                  · subst c11
                    have H1 : (spec_AllRight.l0 kj1 l0 t116 (wrap64 (x4_1 + 1))) = some r := by rw [if_pos rfl] at H; exact H
                    clear H
                    have H := H1
                    clear H1
                    as_aux_lemma =>
                      have H' := Aside0.mk H
                      clear H
                      have p115 : 0 ≤ (x4_1 : Int) := of_decide_eq_true (by first | (with_reducible assumption) | assumption)
                      have q115 : x4_1 < (l0.length : Int) := of_decide_eq_true (by first | (with_reducible assumption) | assumption)
                      obtain ⟨ad115, A115_4, c115_4, A115_5, c115_5, e115, hx115_0, hx115_1, hx115_2, hx115_3, hx115_4, hx115_5, hl115_4, hi115_4, hl115_5, hi115_5⟩ := at_T31 HR0.out x4_1 p115 q115
                      cases e115
                      replace hx115_0 := (HB.out.cell (World.block_lt_of_cell? w _ hx115_0)).trans hx115_0
                      replace hx115_1 := (HB.out.cell (World.block_lt_of_cell? w _ hx115_1)).trans hx115_1
                      replace hx115_2 := (HB.out.cell (World.block_lt_of_cell? w _ hx115_2)).trans hx115_2
                      replace hx115_3 := (HB.out.cell (World.block_lt_of_cell? w _ hx115_3)).trans hx115_3
                      replace hx115_4 := (HB.out.cell (World.block_lt_of_cell? w _ hx115_4)).trans hx115_4
                      replace hx115_5 := (HB.out.cell (World.block_lt_of_cell? w _ hx115_5)).trans hx115_5
                      have HR115_4 := Aside0.mk hi115_4
                      have HC115_4 := Aside0.mk hl115_4
                      clear hi115_4 hl115_4
                      have HR115_5 := Aside0.mk hi115_5
                      have HC115_5 := Aside0.mk hl115_5
                      clear hi115_5 hl115_5
                      replace p115 := eq_true p115
                      replace q115 := eq_true q115
                      go_wp2_with (first | ((with_reducible refine gate_callee (f := 16) rfl ?_); refine goesL_ (some 21) rfl rfl Try.func16 (by kernel_rfl) rfl #[.agg #[.int .i64 ((rd_T31 l0 x4_1).f0), .int .i64 ((rd_T31 l0 x4_1).f1), .float .f64 ((rd_T31 l0 x4_1).f2), .string ((rd_T31 l0 x4_1).f3), .slice A115_4 ((rd_T31 l0 x4_1).f4).length c115_4, .slice A115_5 ((rd_T31 l0 x4_1).f5).length c115_5], .int .i64 x3_1, .int .i64 8] rfl (by (try simp only [List.map_toArray, List.map_cons, List.map_nil]); first | done | rfl | (simp only [List.length_drop, List.length_take]; rfl)) ?_; (with_reducible refine (spec_weigh.calls kj1 ((rd_T31 l0 x4_1).f0) ((rd_T31 l0 x4_1).f1) ((rd_T31 l0 x4_1).f2) ((rd_T31 l0 x4_1).f3) _ _ ((rd_T31 l0 x4_1).f4) _ _ ((rd_T31 l0 x4_1).f5) x3_1 8 t116 _ ?side1 ?side2 ?side3 ?side4 A7.out).mono ?_); (case side1 => repeat (first | exact (Kd.C_below HR115_4.out HB.out) | (with_reducible refine Kd.C_alloc ?_ _) | (with_reducible refine Kd.C_drewN ?_ _) | (with_reducible refine Kd.C_drew ?_))); (case side2 => exact HC115_4.out); (case side3 => repeat (first | exact (Kd.C_below HR115_5.out HB.out) | (with_reducible refine Kd.C_alloc ?_ _) | (with_reducible refine Kd.C_drewN ?_ _) | (with_reducible refine Kd.C_drew ?_))); (case side4 => exact HC115_5.out); rintro e w12 ⟨rfl, hb⟩; refine ⟨_, rfl, ?_⟩; have n0_ := Aside0.mk (below_step (by repeat (first | (with_reducible first | exact HB.out | apply below_alloc | apply pw_below_drewN | apply below_drew1) | exact HB.out)) hb); clear HB; have HB := n0_; clear n0_; (try clear hb); (try clear hb2); (try clear hk); (try clear hi); have p117 : 0 ≤ (x4_1 : Int) := of_decide_eq_true (by first | (with_reducible assumption) | assumption); have q117 : x4_1 < (l0.length : Int) := of_decide_eq_true (by first | (with_reducible assumption) | assumption); obtain ⟨ad117, A117_4, c117_4, A117_5, c117_5, e117, hx117_0, hx117_1, hx117_2, hx117_3, hx117_4, hx117_5, hl117_4, hi117_4, hl117_5, hi117_5⟩ := at_T31 HR0.out x4_1 p117 q117; obtain rfl : ad115 = ad117 := (by injection e117); replace hx117_0 := (HB.out.cell (World.block_lt_of_cell? w _ hx117_0)).trans hx117_0; replace hx117_1 := (HB.out.cell (World.block_lt_of_cell? w _ hx117_1)).trans hx117_1; replace hx117_2 := (HB.out.cell (World.block_lt_of_cell? w _ hx117_2)).trans hx117_2; replace hx117_3 := (HB.out.cell (World.block_lt_of_cell? w _ hx117_3)).trans hx117_3; replace hx117_4 := (HB.out.cell (World.block_lt_of_cell? w _ hx117_4)).trans hx117_4; replace hx117_5 := (HB.out.cell (World.block_lt_of_cell? w _ hx117_5)).trans hx117_5; have HR117_4 := Aside0.mk hi117_4; have HC117_4 := Aside0.mk hl117_4; clear hi117_4 hl117_4; have HR117_5 := Aside0.mk hi117_5; have HC117_5 := Aside0.mk hl117_5; clear hi117_5 hl117_5; replace p117 := eq_true p117; replace q117 := eq_true q117) | (go_at_call 17; (with_reducible refine (spec_right.calls kj1 ((rd_T31 l0 x4_1).f0) ((rd_T31 l0 x4_1).f1) ((rd_T31 l0 x4_1).f2) ((rd_T31 l0 x4_1).f3) _ _ ((rd_T31 l0 x4_1).f4) _ _ ((rd_T31 l0 x4_1).f5) 8 true _ ?side1 ?side2 ?side3 ?side4 A10.out).mono ?_); (case side1 => repeat (first | exact (Kd.C_below HR117_4.out HB.out) | (with_reducible refine Kd.C_alloc ?_ _) | (with_reducible refine Kd.C_drewN ?_ _) | (with_reducible refine Kd.C_drew ?_))); (case side2 => exact HC117_4.out); (case side3 => repeat (first | exact (Kd.C_below HR117_5.out HB.out) | (with_reducible refine Kd.C_alloc ?_ _) | (with_reducible refine Kd.C_drewN ?_ _) | (with_reducible refine Kd.C_drew ?_))); (case side4 => exact HC117_5.out); rintro e w13 ⟨rfl, hb⟩; have n0_ := Aside0.mk (below_step (by repeat (first | (with_reducible first | exact HB.out | apply below_alloc | apply pw_below_drewN | apply below_drew1) | exact HB.out)) hb); clear HB; have HB := n0_; clear n0_; (try clear hb); (try clear hb2); (try clear hk); (try clear hi)))
                      go_roundg kj1
                      case measure => have := HK1.out; have := HJ1.out; omega
                      case rel => exact ⟨(t116), (wrap64 (x4_1 + 1)), (by first | rfl | (simp only [bytesLe_not]; done) | (simp; done) | (simp [*]; done)), (by first | rfl | (simp only [bytesLe_not]; done) | (simp; done) | (simp [*]; done)), H', ⟨by have := HK1.out; have := HJ1.out; omega⟩, ⟨by repeat (first | (with_reducible first | exact HB.out | apply below_alloc | apply pw_below_drewN | apply below_drew1) | exact HB.out)⟩⟩
                  · replace c11 := Bool.eq_false_iff.mpr c11
                    subst c11
                    have H1 : (some false) = some r := by rw [if_neg (show ¬ (false = true) by decide)] at H; exact H
                    clear H
                    have H := H1
                    clear H1
                    as_aux_lemma =>
                      obtain rfl := Option.some.inj H
                      have p115 : 0 ≤ (x4_1 : Int) := of_decide_eq_true (by first | (with_reducible assumption) | assumption)
                      have q115 : x4_1 < (l0.length : Int) := of_decide_eq_true (by first | (with_reducible assumption) | assumption)
                      obtain ⟨ad115, A115_4, c115_4, A115_5, c115_5, e115, hx115_0, hx115_1, hx115_2, hx115_3, hx115_4, hx115_5, hl115_4, hi115_4, hl115_5, hi115_5⟩ := at_T31 HR0.out x4_1 p115 q115
                      cases e115
                      replace hx115_0 := (HB.out.cell (World.block_lt_of_cell? w _ hx115_0)).trans hx115_0
                      replace hx115_1 := (HB.out.cell (World.block_lt_of_cell? w _ hx115_1)).trans hx115_1
                      replace hx115_2 := (HB.out.cell (World.block_lt_of_cell? w _ hx115_2)).trans hx115_2
                      replace hx115_3 := (HB.out.cell (World.block_lt_of_cell? w _ hx115_3)).trans hx115_3
                      replace hx115_4 := (HB.out.cell (World.block_lt_of_cell? w _ hx115_4)).trans hx115_4
                      replace hx115_5 := (HB.out.cell (World.block_lt_of_cell? w _ hx115_5)).trans hx115_5
                      have HR115_4 := Aside0.mk hi115_4
                      have HC115_4 := Aside0.mk hl115_4
                      clear hi115_4 hl115_4
                      have HR115_5 := Aside0.mk hi115_5
                      have HC115_5 := Aside0.mk hl115_5
                      clear hi115_5 hl115_5
                      replace p115 := eq_true p115
                      replace q115 := eq_true q115
                      go_wp2_with (first | ((with_reducible refine gate_callee (f := 16) rfl ?_); refine goesL_ (some 21) rfl rfl Try.func16 (by kernel_rfl) rfl #[.agg #[.int .i64 ((rd_T31 l0 x4_1).f0), .int .i64 ((rd_T31 l0 x4_1).f1), .float .f64 ((rd_T31 l0 x4_1).f2), .string ((rd_T31 l0 x4_1).f3), .slice A115_4 ((rd_T31 l0 x4_1).f4).length c115_4, .slice A115_5 ((rd_T31 l0 x4_1).f5).length c115_5], .int .i64 x3_1, .int .i64 8] rfl (by (try simp only [List.map_toArray, List.map_cons, List.map_nil]); first | done | rfl | (simp only [List.length_drop, List.length_take]; rfl)) ?_; (with_reducible refine (spec_weigh.calls kj1 ((rd_T31 l0 x4_1).f0) ((rd_T31 l0 x4_1).f1) ((rd_T31 l0 x4_1).f2) ((rd_T31 l0 x4_1).f3) _ _ ((rd_T31 l0 x4_1).f4) _ _ ((rd_T31 l0 x4_1).f5) x3_1 8 t116 _ ?side1 ?side2 ?side3 ?side4 A7.out).mono ?_); (case side1 => repeat (first | exact (Kd.C_below HR115_4.out HB.out) | (with_reducible refine Kd.C_alloc ?_ _) | (with_reducible refine Kd.C_drewN ?_ _) | (with_reducible refine Kd.C_drew ?_))); (case side2 => exact HC115_4.out); (case side3 => repeat (first | exact (Kd.C_below HR115_5.out HB.out) | (with_reducible refine Kd.C_alloc ?_ _) | (with_reducible refine Kd.C_drewN ?_ _) | (with_reducible refine Kd.C_drew ?_))); (case side4 => exact HC115_5.out); rintro e w14 ⟨rfl, hb⟩; refine ⟨_, rfl, ?_⟩; have n0_ := Aside0.mk (below_step (by repeat (first | (with_reducible first | exact HB.out | apply below_alloc | apply pw_below_drewN | apply below_drew1) | exact HB.out)) hb); clear HB; have HB := n0_; clear n0_; (try clear hb); (try clear hb2); (try clear hk); (try clear hi); have p117 : 0 ≤ (x4_1 : Int) := of_decide_eq_true (by first | (with_reducible assumption) | assumption); have q117 : x4_1 < (l0.length : Int) := of_decide_eq_true (by first | (with_reducible assumption) | assumption); obtain ⟨ad117, A117_4, c117_4, A117_5, c117_5, e117, hx117_0, hx117_1, hx117_2, hx117_3, hx117_4, hx117_5, hl117_4, hi117_4, hl117_5, hi117_5⟩ := at_T31 HR0.out x4_1 p117 q117; obtain rfl : ad115 = ad117 := (by injection e117); replace hx117_0 := (HB.out.cell (World.block_lt_of_cell? w _ hx117_0)).trans hx117_0; replace hx117_1 := (HB.out.cell (World.block_lt_of_cell? w _ hx117_1)).trans hx117_1; replace hx117_2 := (HB.out.cell (World.block_lt_of_cell? w _ hx117_2)).trans hx117_2; replace hx117_3 := (HB.out.cell (World.block_lt_of_cell? w _ hx117_3)).trans hx117_3; replace hx117_4 := (HB.out.cell (World.block_lt_of_cell? w _ hx117_4)).trans hx117_4; replace hx117_5 := (HB.out.cell (World.block_lt_of_cell? w _ hx117_5)).trans hx117_5; have HR117_4 := Aside0.mk hi117_4; have HC117_4 := Aside0.mk hl117_4; clear hi117_4 hl117_4; have HR117_5 := Aside0.mk hi117_5; have HC117_5 := Aside0.mk hl117_5; clear hi117_5 hl117_5; replace p117 := eq_true p117; replace q117 := eq_true q117) | (go_at_call 17; (with_reducible refine (spec_right.calls kj1 ((rd_T31 l0 x4_1).f0) ((rd_T31 l0 x4_1).f1) ((rd_T31 l0 x4_1).f2) ((rd_T31 l0 x4_1).f3) _ _ ((rd_T31 l0 x4_1).f4) _ _ ((rd_T31 l0 x4_1).f5) 8 false _ ?side1 ?side2 ?side3 ?side4 A10.out).mono ?_); (case side1 => repeat (first | exact (Kd.C_below HR117_4.out HB.out) | (with_reducible refine Kd.C_alloc ?_ _) | (with_reducible refine Kd.C_drewN ?_ _) | (with_reducible refine Kd.C_drew ?_))); (case side2 => exact HC117_4.out); (case side3 => repeat (first | exact (Kd.C_below HR117_5.out HB.out) | (with_reducible refine Kd.C_alloc ?_ _) | (with_reducible refine Kd.C_drewN ?_ _) | (with_reducible refine Kd.C_drew ?_))); (case side4 => exact HC117_5.out); rintro e w15 ⟨rfl, hb⟩; have n0_ := Aside0.mk (below_step (by repeat (first | (with_reducible first | exact HB.out | apply below_alloc | apply pw_below_drewN | apply below_drew1) | exact HB.out)) hb); clear HB; have HB := n0_; clear n0_; (try clear hb); (try clear hb2); (try clear hk); (try clear hi)))
                      go_ret
                      exact ⟨by first | rfl | (simp [errW_none, errW_some] <;> rfl) | (simp [*, errW_none, errW_some] <;> rfl), by repeat (first | (with_reducible first | exact HB.out | apply below_alloc | apply pw_below_drewN | apply below_drew1) | exact HB.out)⟩
              · rw [if_neg c6] at H
                exact absurd H (by simp)
            · rw [if_neg c5] at H
              exact absurd H (by simp)
          · replace c4 := Bool.eq_false_iff.mpr c4
            subst c4
            have H1 : (some (decide ((l0.length : Int) ≤ 60))) = some r := by rw [if_neg (show ¬ (false = true) by decide)] at H; exact H
            clear H
            have H := H1
            clear H1
            as_aux_lemma =>
              obtain rfl := Option.some.inj H
              go_wp2
              go_ret
              exact ⟨by first | rfl | (simp [errW_none, errW_some] <;> rfl) | (simp [*, errW_none, errW_some] <;> rfl), by repeat (first | (with_reducible first | exact HB.out | apply below_alloc | apply pw_below_drewN | apply below_drew1) | exact HB.out)⟩

-- NOT PRINTED: function 26 (impl_goDict)

-- NOT PRINTED: function 32 (impl_goOf)

-- NOT PRINTED: function 18 (impl_goList)

-- NOT PRINTED: function 40 (sprig_zzList)

-- NOT PRINTED: function 47 (sprig_zzEqual)

-- NOT PRINTED: function 41 (sprig_inList)

end Go.Proofs.Ytffkinonnkbcpaa.P
