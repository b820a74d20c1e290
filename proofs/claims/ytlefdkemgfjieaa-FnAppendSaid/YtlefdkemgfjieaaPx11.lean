-- WRITTEN by xprint.py (a program of this session, over the kit's print) out of the translation. Not trusted: Lean checks it.
import Derived.Test.YtlefdkemgfjieaaPx0
import Derived.Test.YtlefdkemgfjieaaPx1
import Derived.Test.YtlefdkemgfjieaaPx2
namespace Go.Proofs.Ytlefdkemgfjieaa.P
open Go.RowKit Go.Proofs.YtlefdkemgfjieaaW.PrintWords Go.Proofs.YtlefdkemgfjieaaW.PrintLast Go.Proofs.YtlefdkemgfjieaaW.PrintMore
attribute [local go_sem] max2_int min2_int max_two min_two max_three min_three max_four min_four run_store_float   -- for this text's walks alone
set_option linter.unusedVariables false
set_option linter.unusedSimpArgs false

-- NOT PRINTED: function 90 (slices_pdqsortOrdered_string)

-- NOT PRINTED: function 83 (slices_Sort_string_string)

-- NOT PRINTED: function 64 (sort_Strings)

-- NOT PRINTED: function 66 (impl_dictOf)

-- NOT PRINTED: function 46 (impl_valueOf)

-- NOT PRINTED: function 72 (sprig_ternary)

-- NOT PRINTED: function 47 (sprig_Ternary)

-- NOT PRINTED: function 15 (impl_Ternary)

-- NOT PRINTED: function 24 (spec_SameList)

-- NOT PRINTED: function 16 (spec_Same)

-- NOT PRINTED: function 3 (laws_FnTernary)

/-! ### spec_AllRight: function 22 -/
mutual
def spec_AllRight.l0 : Nat → List (S26) → Int → Int → Option (Bool)
  | 0, _, _, _ => none
  | k + 1, x0, x3, x4 => if x4 < (x0.length : Int) then (spec_AllRight.j1 k x0 x3 x4 (decide ((x0.length : Int) ≤ 60))) else (spec_AllRight.j1 k x0 x3 x4 false)
def spec_AllRight.j1 : Nat → List (S26) → Int → Int → Bool → Option (Bool)
  | 0, _, _, _, _ => none
  | k + 1, x0, x3, x4, x13 => if x13 = true then (if 0 ≤ x4 then (if x4 < (x0.length : Int) then ((spec_weigh.f k ((rd_T26 x0 x4).f0) ((rd_T26 x0 x4).f1) ((rd_T26 x0 x4).f2) ((rd_T26 x0 x4).f3) ((rd_T26 x0 x4).f4) ((rd_T26 x0 x4).f5) x3 8).bind fun t240 => (if t240 < 0 then (some false) else ((spec_right.f k ((rd_T26 x0 x4).f0) ((rd_T26 x0 x4).f1) ((rd_T26 x0 x4).f2) ((rd_T26 x0 x4).f3) ((rd_T26 x0 x4).f4) ((rd_T26 x0 x4).f5) 8).bind fun t242 => (if t242 = true then (spec_AllRight.l0 k x0 t240 (wrap64 (x4 + 1))) else (some false))))) else (none)) else (none)) else (some (decide ((x0.length : Int) ≤ 60)))
end
def spec_AllRight.f (k : Nat) (l0 : List (S26)) : Option (Bool) := spec_AllRight.l0 k l0 300 0
theorem spec_AllRight.mono_l : ∀ k, (∀ y0 y1 y2, LeO (spec_AllRight.l0 k y0 y1 y2) (spec_AllRight.l0 (k + 1) y0 y1 y2)) ∧ (∀ y0 y1 y2 y3, LeO (spec_AllRight.j1 k y0 y1 y2 y3) (spec_AllRight.j1 (k + 1) y0 y1 y2 y3))
  | 0 => ⟨fun _ _ _ r h => by simp [spec_AllRight.l0] at h, fun _ _ _ _ r h => by simp [spec_AllRight.j1] at h⟩
  | k + 1 => by
    obtain ⟨ih0, ih1⟩ := spec_AllRight.mono_l k
    refine ⟨?_, ?_⟩
    · intro y0 y1 y2
      unfold spec_AllRight.l0
      repeat' first
      | (with_reducible exact ih0 _ _ _)
      | (with_reducible exact ih1 _ _ _ _)
      | (with_reducible exact spec_right.mono _ _ _ _ _ _ _ _)
      | (with_reducible exact spec_weigh.mono _ _ _ _ _ _ _ _ _)
      | (with_reducible exact LeO.refl _)
      | (with_reducible exact LeO.none _)
      | (with_reducible refine LeO.ite ?_ ?_)
      | (with_reducible refine LeO.bind ?_ (fun _ => ?_))
      | exact ih0 _ _ _
      | exact ih1 _ _ _ _
      | exact spec_right.mono _ _ _ _ _ _ _ _
      | exact spec_weigh.mono _ _ _ _ _ _ _ _ _
      | exact LeO.none _
      | refine LeO.ite ?_ ?_
      | refine LeO.bind ?_ (fun _ => ?_)
    · intro y0 y1 y2 y3
      unfold spec_AllRight.j1
      repeat' first
      | (with_reducible exact ih0 _ _ _)
      | (with_reducible exact ih1 _ _ _ _)
      | (with_reducible exact spec_right.mono _ _ _ _ _ _ _ _)
      | (with_reducible exact spec_weigh.mono _ _ _ _ _ _ _ _ _)
      | (with_reducible exact LeO.refl _)
      | (with_reducible exact LeO.none _)
      | (with_reducible refine LeO.ite ?_ ?_)
      | (with_reducible refine LeO.bind ?_ (fun _ => ?_))
      | exact ih0 _ _ _
      | exact ih1 _ _ _ _
      | exact spec_right.mono _ _ _ _ _ _ _ _
      | exact spec_weigh.mono _ _ _ _ _ _ _ _ _
      | exact LeO.none _
      | refine LeO.ite ?_ ?_
      | refine LeO.bind ?_ (fun _ => ?_)
theorem spec_AllRight.mono : ∀ a0 k, LeO (spec_AllRight.f k a0) (spec_AllRight.f (k + 1) a0) := by
  intro a0 k
  obtain ⟨ih0, ih1⟩ := spec_AllRight.mono_l k
  unfold spec_AllRight.f
  repeat' first
      | (with_reducible exact ih0 _ _ _)
      | (with_reducible exact ih1 _ _ _ _)
      | (with_reducible exact spec_right.mono _ _ _ _ _ _ _ _)
      | (with_reducible exact spec_weigh.mono _ _ _ _ _ _ _ _ _)
      | (with_reducible exact LeO.refl _)
      | (with_reducible exact LeO.none _)
      | (with_reducible refine LeO.ite ?_ ?_)
      | (with_reducible refine LeO.bind ?_ (fun _ => ?_))
      | exact ih0 _ _ _
      | exact ih1 _ _ _ _
      | exact spec_right.mono _ _ _ _ _ _ _ _
      | exact spec_weigh.mono _ _ _ _ _ _ _ _ _
      | exact LeO.none _
      | refine LeO.ite ?_ ?_
      | refine LeO.bind ?_ (fun _ => ?_)
set_option maxHeartbeats 8000000 in
set_option maxRecDepth 100000 in
theorem spec_AllRight.calls (k : Nat) (A0 : Option Addr) (c0 : Nat) (l0 : List (S26)) (r : Bool) (w : World) (hr0 : Kd.C k26 w A0 l0.length l0) (hc0 : l0.length ≤ c0) (h : spec_AllRight.f k l0 = some r) :
    Calls Try.prog 22 #[.slice A0 l0.length c0] w fun e w' => e = .returned (.bool r) ∧ Below w.heap.size w w' := by
  have hu26 := Try.underlying26
  have HR0 := Aside0.mk hr0
  have HC0 := Aside0.mk hc0
  clear hr0 hc0
  have HB := Aside0.mk (Below.refl w.heap.size w)
  have H : (spec_AllRight.l0 k l0 300 0) = some r := h
  clear h
  have H' := Aside0.mk H
  clear H
  go_enter Try.func22, Try.ntmps22
  go_wp2
  go_loopg [3, 4] k (fun kq v3 v4 w' => ∃ (x3_1 : Int) (x4_1 : Int), v3 = .int .i64 x3_1 ∧ v4 = .int .i64 x4_1 ∧ Aside0 (spec_AllRight.l0 kq l0 x3_1 x4_1 = some r) ∧ Aside0 (kq ≤ k) ∧ Aside0 (Below w.heap.size w w'))
  case atStart => exact ⟨(300), (0), (by first | rfl | (simp only [bytesLe_not]; done) | (simp; done) | (simp [*]; done)), (by first | rfl | (simp only [bytesLe_not]; done) | (simp; done) | (simp [*]; done)), H', ⟨Nat.le_refl _⟩, ⟨by repeat (first | (with_reducible first | exact HB.out | apply below_alloc | apply pw_below_drewN | apply below_drew1) | exact HB.out)⟩⟩
  case round =>
    clear H'
    obtain ⟨x3_1, x4_1, rfl, rfl, HA, HK1, HB⟩ := hrel
    cases gk with
    | zero => exact absurd HA.out (by simp [spec_AllRight.l0])
    | succ k1 =>
      have H := HA.out
      clear HA
      simp only [spec_AllRight.l0] at H
      have HC2 := Aside0.mk H
      clear H
      go_upto_region 3 with (fail)
      go_cut [13] (fun v13 wc => ∃ (kq : Nat) (x13_1 : Bool), v13 = .bool x13_1 ∧ Aside0 (spec_AllRight.j1 kq l0 x3_1 x4_1 x13_1 = some r) ∧ Aside0 (kq ≤ k1) ∧ Aside0 (Below w.heap.size w wc))
      case first =>
        have H := HC2.out
        clear HC2
        by_cases c3 : x4_1 < (l0.length : Int)
        · rw [if_pos c3] at H
          have c3b0 : decide (x4_1 < (l0.length : Int)) = true := decide_eq_true c3
          clear c3
          (first | rw [c3b0] | (simp only [i64_w, i32_w]; rw [c3b0]) | skip)
          as_aux_lemma =>
            have H' := Aside0.mk H
            clear H
            go_wp2
            go_meet
            case rel => exact ⟨_, (decide ((l0.length : Int) ≤ 60)), (by first | rfl | (simp only [bytesLe_not]; done) | (simp; done) | (simp [*]; done)), H', ⟨by have := HK1.out; first | omega | exact Nat.le_refl _⟩, ⟨by repeat (first | (with_reducible first | exact HB.out | apply below_alloc | apply pw_below_drewN | apply below_drew1) | exact HB.out)⟩⟩
        · rw [if_neg c3] at H
          have c3b0 : decide (x4_1 < (l0.length : Int)) = false := decide_eq_false c3
          clear c3
          (first | rw [c3b0] | (simp only [i64_w, i32_w]; rw [c3b0]) | skip)
          as_aux_lemma =>
            have H' := Aside0.mk H
            clear H
            go_wp2
            go_meet
            case rel => exact ⟨_, (false), (by first | rfl | (simp only [bytesLe_not]; done) | (simp; done) | (simp [*]; done)), H', ⟨by have := HK1.out; first | omega | exact Nat.le_refl _⟩, ⟨by repeat (first | (with_reducible first | exact HB.out | apply below_alloc | apply pw_below_drewN | apply below_drew1) | exact HB.out)⟩⟩
      case rest =>
        clear HC2
        try clear c2
        try clear p2
        try clear c3
        try clear c3b0
        obtain ⟨kq, x13_1, rfl, HA, HJ1, HB⟩ := hcut
        cases kq with
        | zero => exact absurd HA.out (by simp [spec_AllRight.j1])
        | succ kj1 =>
          have H := HA.out
          clear HA
          simp only [spec_AllRight.j1] at H
          by_cases c4 : x13_1 = true
          · subst c4
            have H1 : (if 0 ≤ x4_1 then (if x4_1 < (l0.length : Int) then ((spec_weigh.f kj1 ((rd_T26 l0 x4_1).f0) ((rd_T26 l0 x4_1).f1) ((rd_T26 l0 x4_1).f2) ((rd_T26 l0 x4_1).f3) ((rd_T26 l0 x4_1).f4) ((rd_T26 l0 x4_1).f5) x3_1 8).bind fun t240 => (if t240 < 0 then (some false) else ((spec_right.f kj1 ((rd_T26 l0 x4_1).f0) ((rd_T26 l0 x4_1).f1) ((rd_T26 l0 x4_1).f2) ((rd_T26 l0 x4_1).f3) ((rd_T26 l0 x4_1).f4) ((rd_T26 l0 x4_1).f5) 8).bind fun t242 => (if t242 = true then (spec_AllRight.l0 kj1 l0 t240 (wrap64 (x4_1 + 1))) else (some false))))) else (none)) else (none)) = some r := by rw [if_pos rfl] at H; exact H
            clear H
            have H := H1
            clear H1
            by_cases c5 : 0 ≤ x4_1
            · rw [if_pos c5] at H
              have c5b0 : decide (0 ≤ x4_1) = true := decide_eq_true c5
              clear c5
              by_cases c6 : x4_1 < (l0.length : Int)
              · rw [if_pos c6] at H
                have c6b0 : decide (x4_1 < (l0.length : Int)) = true := decide_eq_true c6
                clear c6
                replace H := Option.bind_eq_some_iff.mp H
                obtain ⟨t240, A70, H⟩ := H
                replace H : (if t240 < 0 then (some false) else ((spec_right.f kj1 ((rd_T26 l0 x4_1).f0) ((rd_T26 l0 x4_1).f1) ((rd_T26 l0 x4_1).f2) ((rd_T26 l0 x4_1).f3) ((rd_T26 l0 x4_1).f4) ((rd_T26 l0 x4_1).f5) 8).bind fun t242 => (if t242 = true then (spec_AllRight.l0 kj1 l0 t240 (wrap64 (x4_1 + 1))) else (some false)))) = some r := H
                have A7 := Aside0.mk A70
                clear A70
                by_cases c8 : t240 < 0
                · rw [if_pos c8] at H
                  have c8b0 : decide (t240 < 0) = true := decide_eq_true c8
                  clear c8
                  as_aux_lemma =>
                    obtain rfl := Option.some.inj H
                    have p239 : 0 ≤ (x4_1 : Int) := of_decide_eq_true (by first | (with_reducible assumption) | assumption)
                    have q239 : x4_1 < (l0.length : Int) := of_decide_eq_true (by first | (with_reducible assumption) | assumption)
                    obtain ⟨ad239, A239_4, c239_4, A239_5, c239_5, e239, hx239_0, hx239_1, hx239_2, hx239_3, hx239_4, hx239_5, hl239_4, hi239_4, hl239_5, hi239_5⟩ := at_T26 HR0.out x4_1 p239 q239
                    cases e239
                    replace hx239_0 := (HB.out.cell (World.block_lt_of_cell? w _ hx239_0)).trans hx239_0
                    replace hx239_1 := (HB.out.cell (World.block_lt_of_cell? w _ hx239_1)).trans hx239_1
                    replace hx239_2 := (HB.out.cell (World.block_lt_of_cell? w _ hx239_2)).trans hx239_2
                    replace hx239_3 := (HB.out.cell (World.block_lt_of_cell? w _ hx239_3)).trans hx239_3
                    replace hx239_4 := (HB.out.cell (World.block_lt_of_cell? w _ hx239_4)).trans hx239_4
                    replace hx239_5 := (HB.out.cell (World.block_lt_of_cell? w _ hx239_5)).trans hx239_5
                    have HR239_4 := Aside0.mk hi239_4
                    have HC239_4 := Aside0.mk hl239_4
                    clear hi239_4 hl239_4
                    have HR239_5 := Aside0.mk hi239_5
                    have HC239_5 := Aside0.mk hl239_5
                    clear hi239_5 hl239_5
                    replace p239 := eq_true p239
                    replace q239 := eq_true q239
                    go_wp2_with (first | ((with_reducible refine gate_callee (f := 43) rfl ?_); refine goesL_ (some 21) rfl rfl Try.func43 (by kernel_rfl) rfl #[.agg #[.int .i64 ((rd_T26 l0 x4_1).f0), .int .i64 ((rd_T26 l0 x4_1).f1), .float .f64 ((rd_T26 l0 x4_1).f2), .string ((rd_T26 l0 x4_1).f3), .slice A239_4 ((rd_T26 l0 x4_1).f4).length c239_4, .slice A239_5 ((rd_T26 l0 x4_1).f5).length c239_5], .int .i64 x3_1, .int .i64 8] rfl (by (try simp only [List.map_toArray, List.map_cons, List.map_nil]); first | done | rfl | (simp only [List.length_drop, List.length_take]; rfl)) ?_; (with_reducible refine (spec_weigh.calls kj1 ((rd_T26 l0 x4_1).f0) ((rd_T26 l0 x4_1).f1) ((rd_T26 l0 x4_1).f2) ((rd_T26 l0 x4_1).f3) _ _ ((rd_T26 l0 x4_1).f4) _ _ ((rd_T26 l0 x4_1).f5) x3_1 8 t240 _ ?side1 ?side2 ?side3 ?side4 A7.out).mono ?_); (case side1 => repeat (first | exact (Kd.C_below HR239_4.out HB.out) | (with_reducible refine Kd.C_alloc ?_ _) | (with_reducible refine Kd.C_drewN ?_ _) | (with_reducible refine Kd.C_drew ?_))); (case side2 => exact HC239_4.out); (case side3 => repeat (first | exact (Kd.C_below HR239_5.out HB.out) | (with_reducible refine Kd.C_alloc ?_ _) | (with_reducible refine Kd.C_drewN ?_ _) | (with_reducible refine Kd.C_drew ?_))); (case side4 => exact HC239_5.out); rintro e w9 ⟨rfl, hb⟩; refine ⟨_, rfl, ?_⟩; have n0_ := Aside0.mk (below_step (by repeat (first | (with_reducible first | exact HB.out | apply below_alloc | apply pw_below_drewN | apply below_drew1) | exact HB.out)) hb); clear HB; have HB := n0_; clear n0_; (try clear hb); (try clear hb2); (try clear hk); (try clear hi)))
                    go_ret
                    exact ⟨by first | rfl | (simp [errW_none, errW_some] <;> rfl) | (simp [*, errW_none, errW_some] <;> rfl), by repeat (first | (with_reducible first | exact HB.out | apply below_alloc | apply pw_below_drewN | apply below_drew1) | exact HB.out)⟩
                · rw [if_neg c8] at H
                  have c8b0 : decide (t240 < 0) = false := decide_eq_false c8
                  clear c8
                  replace H := Option.bind_eq_some_iff.mp H
                  obtain ⟨t242, A100, H⟩ := H
                  replace H : (if t242 = true then (spec_AllRight.l0 kj1 l0 t240 (wrap64 (x4_1 + 1))) else (some false)) = some r := H
                  have A10 := Aside0.mk A100
                  clear A100
                  by_cases c11 : t242 = true
                  · subst c11
                    have H1 : (spec_AllRight.l0 kj1 l0 t240 (wrap64 (x4_1 + 1))) = some r := by rw [if_pos rfl] at H; exact H
                    clear H
                    have H := H1
                    clear H1
                    as_aux_lemma =>
                      have H' := Aside0.mk H
                      clear H
                      have p239 : 0 ≤ (x4_1 : Int) := of_decide_eq_true (by first | (with_reducible assumption) | assumption)
                      have q239 : x4_1 < (l0.length : Int) := of_decide_eq_true (by first | (with_reducible assumption) | assumption)
                      obtain ⟨ad239, A239_4, c239_4, A239_5, c239_5, e239, hx239_0, hx239_1, hx239_2, hx239_3, hx239_4, hx239_5, hl239_4, hi239_4, hl239_5, hi239_5⟩ := at_T26 HR0.out x4_1 p239 q239
                      cases e239
                      replace hx239_0 := (HB.out.cell (World.block_lt_of_cell? w _ hx239_0)).trans hx239_0
                      replace hx239_1 := (HB.out.cell (World.block_lt_of_cell? w _ hx239_1)).trans hx239_1
                      replace hx239_2 := (HB.out.cell (World.block_lt_of_cell? w _ hx239_2)).trans hx239_2
                      replace hx239_3 := (HB.out.cell (World.block_lt_of_cell? w _ hx239_3)).trans hx239_3
                      replace hx239_4 := (HB.out.cell (World.block_lt_of_cell? w _ hx239_4)).trans hx239_4
                      replace hx239_5 := (HB.out.cell (World.block_lt_of_cell? w _ hx239_5)).trans hx239_5
                      have HR239_4 := Aside0.mk hi239_4
                      have HC239_4 := Aside0.mk hl239_4
                      clear hi239_4 hl239_4
                      have HR239_5 := Aside0.mk hi239_5
                      have HC239_5 := Aside0.mk hl239_5
                      clear hi239_5 hl239_5
                      replace p239 := eq_true p239
                      replace q239 := eq_true q239
                      go_wp2_with (first | ((with_reducible refine gate_callee (f := 43) rfl ?_); refine goesL_ (some 21) rfl rfl Try.func43 (by kernel_rfl) rfl #[.agg #[.int .i64 ((rd_T26 l0 x4_1).f0), .int .i64 ((rd_T26 l0 x4_1).f1), .float .f64 ((rd_T26 l0 x4_1).f2), .string ((rd_T26 l0 x4_1).f3), .slice A239_4 ((rd_T26 l0 x4_1).f4).length c239_4, .slice A239_5 ((rd_T26 l0 x4_1).f5).length c239_5], .int .i64 x3_1, .int .i64 8] rfl (by (try simp only [List.map_toArray, List.map_cons, List.map_nil]); first | done | rfl | (simp only [List.length_drop, List.length_take]; rfl)) ?_; (with_reducible refine (spec_weigh.calls kj1 ((rd_T26 l0 x4_1).f0) ((rd_T26 l0 x4_1).f1) ((rd_T26 l0 x4_1).f2) ((rd_T26 l0 x4_1).f3) _ _ ((rd_T26 l0 x4_1).f4) _ _ ((rd_T26 l0 x4_1).f5) x3_1 8 t240 _ ?side1 ?side2 ?side3 ?side4 A7.out).mono ?_); (case side1 => repeat (first | exact (Kd.C_below HR239_4.out HB.out) | (with_reducible refine Kd.C_alloc ?_ _) | (with_reducible refine Kd.C_drewN ?_ _) | (with_reducible refine Kd.C_drew ?_))); (case side2 => exact HC239_4.out); (case side3 => repeat (first | exact (Kd.C_below HR239_5.out HB.out) | (with_reducible refine Kd.C_alloc ?_ _) | (with_reducible refine Kd.C_drewN ?_ _) | (with_reducible refine Kd.C_drew ?_))); (case side4 => exact HC239_5.out); rintro e w12 ⟨rfl, hb⟩; refine ⟨_, rfl, ?_⟩; have n0_ := Aside0.mk (below_step (by repeat (first | (with_reducible first | exact HB.out | apply below_alloc | apply pw_below_drewN | apply below_drew1) | exact HB.out)) hb); clear HB; have HB := n0_; clear n0_; (try clear hb); (try clear hb2); (try clear hk); (try clear hi); have p241 : 0 ≤ (x4_1 : Int) := of_decide_eq_true (by first | (with_reducible assumption) | assumption); have q241 : x4_1 < (l0.length : Int) := of_decide_eq_true (by first | (with_reducible assumption) | assumption); obtain ⟨ad241, A241_4, c241_4, A241_5, c241_5, e241, hx241_0, hx241_1, hx241_2, hx241_3, hx241_4, hx241_5, hl241_4, hi241_4, hl241_5, hi241_5⟩ := at_T26 HR0.out x4_1 p241 q241; obtain rfl : ad239 = ad241 := (by injection e241); replace hx241_0 := (HB.out.cell (World.block_lt_of_cell? w _ hx241_0)).trans hx241_0; replace hx241_1 := (HB.out.cell (World.block_lt_of_cell? w _ hx241_1)).trans hx241_1; replace hx241_2 := (HB.out.cell (World.block_lt_of_cell? w _ hx241_2)).trans hx241_2; replace hx241_3 := (HB.out.cell (World.block_lt_of_cell? w _ hx241_3)).trans hx241_3; replace hx241_4 := (HB.out.cell (World.block_lt_of_cell? w _ hx241_4)).trans hx241_4; replace hx241_5 := (HB.out.cell (World.block_lt_of_cell? w _ hx241_5)).trans hx241_5; have HR241_4 := Aside0.mk hi241_4; have HC241_4 := Aside0.mk hl241_4; clear hi241_4 hl241_4; have HR241_5 := Aside0.mk hi241_5; have HC241_5 := Aside0.mk hl241_5; clear hi241_5 hl241_5; replace p241 := eq_true p241; replace q241 := eq_true q241) | (go_at_call 44; (with_reducible refine (spec_right.calls kj1 ((rd_T26 l0 x4_1).f0) ((rd_T26 l0 x4_1).f1) ((rd_T26 l0 x4_1).f2) ((rd_T26 l0 x4_1).f3) _ _ ((rd_T26 l0 x4_1).f4) _ _ ((rd_T26 l0 x4_1).f5) 8 true _ ?side1 ?side2 ?side3 ?side4 A10.out).mono ?_); (case side1 => repeat (first | exact (Kd.C_below HR241_4.out HB.out) | (with_reducible refine Kd.C_alloc ?_ _) | (with_reducible refine Kd.C_drewN ?_ _) | (with_reducible refine Kd.C_drew ?_))); (case side2 => exact HC241_4.out); (case side3 => repeat (first | exact (Kd.C_below HR241_5.out HB.out) | (with_reducible refine Kd.C_alloc ?_ _) | (with_reducible refine Kd.C_drewN ?_ _) | (with_reducible refine Kd.C_drew ?_))); (case side4 => exact HC241_5.out); rintro e w13 ⟨rfl, hb⟩; have n0_ := Aside0.mk (below_step (by repeat (first | (with_reducible first | exact HB.out | apply below_alloc | apply pw_below_drewN | apply below_drew1) | exact HB.out)) hb); clear HB; have HB := n0_; clear n0_; (try clear hb); (try clear hb2); (try clear hk); (try clear hi)))
                      go_roundg kj1
                      case measure => have := HK1.out; have := HJ1.out; omega
                      case rel => exact ⟨(t240), (wrap64 (x4_1 + 1)), (by first | rfl | (simp only [bytesLe_not]; done) | (simp; done) | (simp [*]; done)), (by first | rfl | (simp only [bytesLe_not]; done) | (simp; done) | (simp [*]; done)), H', ⟨by have := HK1.out; have := HJ1.out; omega⟩, ⟨by repeat (first | (with_reducible first | exact HB.out | apply below_alloc | apply pw_below_drewN | apply below_drew1) | exact HB.out)⟩⟩
                  · replace c11 := Bool.eq_false_iff.mpr c11
                    subst c11
                    have H1 : (some false) = some r := by rw [if_neg (show ¬ (false = true) by decide)] at H; exact H
                    clear H
                    have H := H1
                    clear H1
                    as_aux_lemma =>
                      obtain rfl := Option.some.inj H
                      have p239 : 0 ≤ (x4_1 : Int) := of_decide_eq_true (by first | (with_reducible assumption) | assumption)
                      have q239 : x4_1 < (l0.length : Int) := of_decide_eq_true (by first | (with_reducible assumption) | assumption)
                      obtain ⟨ad239, A239_4, c239_4, A239_5, c239_5, e239, hx239_0, hx239_1, hx239_2, hx239_3, hx239_4, hx239_5, hl239_4, hi239_4, hl239_5, hi239_5⟩ := at_T26 HR0.out x4_1 p239 q239
                      cases e239
                      replace hx239_0 := (HB.out.cell (World.block_lt_of_cell? w _ hx239_0)).trans hx239_0
                      replace hx239_1 := (HB.out.cell (World.block_lt_of_cell? w _ hx239_1)).trans hx239_1
                      replace hx239_2 := (HB.out.cell (World.block_lt_of_cell? w _ hx239_2)).trans hx239_2
                      replace hx239_3 := (HB.out.cell (World.block_lt_of_cell? w _ hx239_3)).trans hx239_3
                      replace hx239_4 := (HB.out.cell (World.block_lt_of_cell? w _ hx239_4)).trans hx239_4
                      replace hx239_5 := (HB.out.cell (World.block_lt_of_cell? w _ hx239_5)).trans hx239_5
                      have HR239_4 := Aside0.mk hi239_4
                      have HC239_4 := Aside0.mk hl239_4
                      clear hi239_4 hl239_4
                      have HR239_5 := Aside0.mk hi239_5
                      have HC239_5 := Aside0.mk hl239_5
                      clear hi239_5 hl239_5
                      replace p239 := eq_true p239
                      replace q239 := eq_true q239
                      go_wp2_with (first | ((with_reducible refine gate_callee (f := 43) rfl ?_); refine goesL_ (some 21) rfl rfl Try.func43 (by kernel_rfl) rfl #[.agg #[.int .i64 ((rd_T26 l0 x4_1).f0), .int .i64 ((rd_T26 l0 x4_1).f1), .float .f64 ((rd_T26 l0 x4_1).f2), .string ((rd_T26 l0 x4_1).f3), .slice A239_4 ((rd_T26 l0 x4_1).f4).length c239_4, .slice A239_5 ((rd_T26 l0 x4_1).f5).length c239_5], .int .i64 x3_1, .int .i64 8] rfl (by (try simp only [List.map_toArray, List.map_cons, List.map_nil]); first | done | rfl | (simp only [List.length_drop, List.length_take]; rfl)) ?_; (with_reducible refine (spec_weigh.calls kj1 ((rd_T26 l0 x4_1).f0) ((rd_T26 l0 x4_1).f1) ((rd_T26 l0 x4_1).f2) ((rd_T26 l0 x4_1).f3) _ _ ((rd_T26 l0 x4_1).f4) _ _ ((rd_T26 l0 x4_1).f5) x3_1 8 t240 _ ?side1 ?side2 ?side3 ?side4 A7.out).mono ?_); (case side1 => repeat (first | exact (Kd.C_below HR239_4.out HB.out) | (with_reducible refine Kd.C_alloc ?_ _) | (with_reducible refine Kd.C_drewN ?_ _) | (with_reducible refine Kd.C_drew ?_))); (case side2 => exact HC239_4.out); (case side3 => repeat (first | exact (Kd.C_below HR239_5.out HB.out) | (with_reducible refine Kd.C_alloc ?_ _) | (with_reducible refine Kd.C_drewN ?_ _) | (with_reducible refine Kd.C_drew ?_))); (case side4 => exact HC239_5.out); rintro e w14 ⟨rfl, hb⟩; refine ⟨_, rfl, ?_⟩; have n0_ := Aside0.mk (below_step (by repeat (first | (with_reducible first | exact HB.out | apply below_alloc | apply pw_below_drewN | apply below_drew1) | exact HB.out)) hb); clear HB; have HB := n0_; clear n0_; (try clear hb); (try clear hb2); (try clear hk); (try clear hi); have p241 : 0 ≤ (x4_1 : Int) := of_decide_eq_true (by first | (with_reducible assumption) | assumption); have q241 : x4_1 < (l0.length : Int) := of_decide_eq_true (by first | (with_reducible assumption) | assumption); obtain ⟨ad241, A241_4, c241_4, A241_5, c241_5, e241, hx241_0, hx241_1, hx241_2, hx241_3, hx241_4, hx241_5, hl241_4, hi241_4, hl241_5, hi241_5⟩ := at_T26 HR0.out x4_1 p241 q241; obtain rfl : ad239 = ad241 := (by injection e241); replace hx241_0 := (HB.out.cell (World.block_lt_of_cell? w _ hx241_0)).trans hx241_0; replace hx241_1 := (HB.out.cell (World.block_lt_of_cell? w _ hx241_1)).trans hx241_1; replace hx241_2 := (HB.out.cell (World.block_lt_of_cell? w _ hx241_2)).trans hx241_2; replace hx241_3 := (HB.out.cell (World.block_lt_of_cell? w _ hx241_3)).trans hx241_3; replace hx241_4 := (HB.out.cell (World.block_lt_of_cell? w _ hx241_4)).trans hx241_4; replace hx241_5 := (HB.out.cell (World.block_lt_of_cell? w _ hx241_5)).trans hx241_5; have HR241_4 := Aside0.mk hi241_4; have HC241_4 := Aside0.mk hl241_4; clear hi241_4 hl241_4; have HR241_5 := Aside0.mk hi241_5; have HC241_5 := Aside0.mk hl241_5; clear hi241_5 hl241_5; replace p241 := eq_true p241; replace q241 := eq_true q241) | (go_at_call 44; (with_reducible refine (spec_right.calls kj1 ((rd_T26 l0 x4_1).f0) ((rd_T26 l0 x4_1).f1) ((rd_T26 l0 x4_1).f2) ((rd_T26 l0 x4_1).f3) _ _ ((rd_T26 l0 x4_1).f4) _ _ ((rd_T26 l0 x4_1).f5) 8 false _ ?side1 ?side2 ?side3 ?side4 A10.out).mono ?_); (case side1 => repeat (first | exact (Kd.C_below HR241_4.out HB.out) | (with_reducible refine Kd.C_alloc ?_ _) | (with_reducible refine Kd.C_drewN ?_ _) | (with_reducible refine Kd.C_drew ?_))); (case side2 => exact HC241_4.out); (case side3 => repeat (first | exact (Kd.C_below HR241_5.out HB.out) | (with_reducible refine Kd.C_alloc ?_ _) | (with_reducible refine Kd.C_drewN ?_ _) | (with_reducible refine Kd.C_drew ?_))); (case side4 => exact HC241_5.out); rintro e w15 ⟨rfl, hb⟩; have n0_ := Aside0.mk (below_step (by repeat (first | (with_reducible first | exact HB.out | apply below_alloc | apply pw_below_drewN | apply below_drew1) | exact HB.out)) hb); clear HB; have HB := n0_; clear n0_; (try clear hb); (try clear hb2); (try clear hk); (try clear hi)))
                      go_ret
                      exact ⟨by first | rfl | (simp [errW_none, errW_some] <;> rfl) | (simp [*, errW_none, errW_some] <;> rfl), by repeat (first | (with_reducible first | exact HB.out | apply below_alloc | apply pw_below_drewN | apply below_drew1) | exact HB.out)⟩
              · rw [if_neg c6] at H
                exact absurd H (by simp)
            · rw [if_neg c5] at H
              exact absurd H (by simp)
          · replace c4 := Bool.eq_false_iff.mpr c4
            subst c4
            have H1 : (some (decide ((l0.length : Int) ≤ 60))) = some r := by rw [if_neg (show ¬ (false = true) by decide)] at H; exact H
            clear H
            have H := H1
            clear H1
            as_aux_lemma =>
              obtain rfl := Option.some.inj H
              go_wp2
              go_ret
              exact ⟨by first | rfl | (simp [errW_none, errW_some] <;> rfl) | (simp [*, errW_none, errW_some] <;> rfl), by repeat (first | (with_reducible first | exact HB.out | apply below_alloc | apply pw_below_drewN | apply below_drew1) | exact HB.out)⟩

-- NOT PRINTED: function 57 (impl_listed)

-- NOT PRINTED: function 88 (sprig_zzList)

end Go.Proofs.Ytlefdkemgfjieaa.P
