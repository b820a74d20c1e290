-- WRITTEN by xprint.py (a program of this session, over the kit's print) out of the translation. Not trusted: Lean checks it.
import Derived.Test.YtlefdkemgfjieaaPx0
import Derived.Test.YtlefdkemgfjieaaPx3
namespace Go.Proofs.Ytlefdkemgfjieaa.P
open Go.RowKit Go.Proofs.YtlefdkemgfjieaaW.PrintWords Go.Proofs.YtlefdkemgfjieaaW.PrintLast Go.Proofs.YtlefdkemgfjieaaW.PrintMore
attribute [local go_sem] max2_int min2_int max_two min_two max_three min_three max_four min_four run_store_float   -- for this text's walks alone
set_option linter.unusedVariables false
set_option linter.unusedSimpArgs false

/-! ### spec_Empty: function 25 -/
def spec_Empty.j0 : Nat → Bool → Int → Int → Nat → ByteArray → List ByteArray → List (S26) → Option (Bool)
  | 0, _, _, _, _, _, _, _ => none
  | k + 1, x15, x255000, x255001, x255002, x255003, x255004, x255005 => if x15 = true then (some ((x255005.length : Int) == 0)) else (some (x255001 == 0))
def spec_Empty.f (k : Nat) (a0_0 : Int) (a0_1 : Int) (a0_2 : Nat) (a0_3 : ByteArray) (l0_4 : List ByteArray) (l0_5 : List (S26)) : Option (Bool) := if a0_0 = 4 then (some (FloatKind.f64.format.order a0_2 0 == some Ordering.eq)) else (if a0_0 = 5 then (some (a0_3.toList == ([] : List UInt8))) else (if a0_0 = 6 then (spec_Empty.j0 k (a0_0 == 6) a0_0 a0_1 a0_2 a0_3 l0_4 l0_5) else (spec_Empty.j0 k (a0_0 == 7) a0_0 a0_1 a0_2 a0_3 l0_4 l0_5)))
theorem spec_Empty.mono_l : ∀ k, (∀ y0 y1 y2 y3 y4 y5 y6, LeO (spec_Empty.j0 k y0 y1 y2 y3 y4 y5 y6) (spec_Empty.j0 (k + 1) y0 y1 y2 y3 y4 y5 y6))
  | 0 => fun _ _ _ _ _ _ _ r h => by simp [spec_Empty.j0] at h
  | k + 1 => by
    have ih0 := spec_Empty.mono_l k
    · intro y0 y1 y2 y3 y4 y5 y6
      unfold spec_Empty.j0
      repeat' first
      | (with_reducible exact ih0 _ _ _ _ _ _ _)
      | (with_reducible exact LeO.refl _)
      | (with_reducible exact LeO.none _)
      | (with_reducible refine LeO.ite ?_ ?_)
      | (with_reducible refine LeO.bind ?_ (fun _ => ?_))
      | exact ih0 _ _ _ _ _ _ _
      | exact LeO.none _
      | refine LeO.ite ?_ ?_
      | refine LeO.bind ?_ (fun _ => ?_)
theorem spec_Empty.mono : ∀ a0 a1 a2 a3 a4 a5 k, LeO (spec_Empty.f k a0 a1 a2 a3 a4 a5) (spec_Empty.f (k + 1) a0 a1 a2 a3 a4 a5) := by
  intro a0 a1 a2 a3 a4 a5 k
  have ih0 := spec_Empty.mono_l k
  unfold spec_Empty.f
  repeat' first
      | (with_reducible exact ih0 _ _ _ _ _ _ _)
      | (with_reducible exact LeO.refl _)
      | (with_reducible exact LeO.none _)
      | (with_reducible refine LeO.ite ?_ ?_)
      | (with_reducible refine LeO.bind ?_ (fun _ => ?_))
      | exact ih0 _ _ _ _ _ _ _
      | exact LeO.none _
      | refine LeO.ite ?_ ?_
      | refine LeO.bind ?_ (fun _ => ?_)
set_option maxHeartbeats 8000000 in
set_option maxRecDepth 100000 in
theorem spec_Empty.calls (k : Nat) (a0_0 : Int) (a0_1 : Int) (a0_2 : Nat) (a0_3 : ByteArray) (A0_4 : Option Addr) (c0_4 : Nat) (l0_4 : List ByteArray) (A0_5 : Option Addr) (c0_5 : Nat) (l0_5 : List (S26)) (r : Bool) (w : World) (hr0_4 : Kd.C Kd.string w A0_4 l0_4.length l0_4) (hc0_4 : l0_4.length ≤ c0_4) (hr0_5 : Kd.C k26 w A0_5 l0_5.length l0_5) (hc0_5 : l0_5.length ≤ c0_5) (h : spec_Empty.f k a0_0 a0_1 a0_2 a0_3 l0_4 l0_5 = some r) :
    Calls Try.prog 25 #[.agg #[.int .i64 a0_0, .int .i64 a0_1, .float .f64 a0_2, .string a0_3, .slice A0_4 l0_4.length c0_4, .slice A0_5 l0_5.length c0_5]] w fun e w' => e = .returned (.bool r) ∧ Below w.heap.size w w' := by
  have hu26 := Try.underlying26
  have HR0_4 := Aside0.mk hr0_4
  have HC0_4 := Aside0.mk hc0_4
  clear hr0_4 hc0_4
  have HR0_5 := Aside0.mk hr0_5
  have HC0_5 := Aside0.mk hc0_5
  clear hr0_5 hc0_5
  have HB := Aside0.mk (Below.refl w.heap.size w)
  have H : (if a0_0 = 4 then (some (FloatKind.f64.format.order a0_2 0 == some Ordering.eq)) else (if a0_0 = 5 then (some (a0_3.toList == ([] : List UInt8))) else (if a0_0 = 6 then (spec_Empty.j0 k (a0_0 == 6) a0_0 a0_1 a0_2 a0_3 l0_4 l0_5) else (spec_Empty.j0 k (a0_0 == 7) a0_0 a0_1 a0_2 a0_3 l0_4 l0_5)))) = some r := h
  clear h
  by_cases c2 : a0_0 = 4
  · rw [if_pos c2] at H
    have c2b0 : (a0_0 == 4) = true := beq_iff_eq.mpr c2
    have c2b1 : (a0_0 != 4) = false := bne_eq_false_iff_eq.mpr c2
    clear c2
    as_aux_lemma =>
      obtain rfl := Option.some.inj H
      go_enter Try.func25, Try.ntmps25
      go_wp2_with (first | ((with_reducible refine gate_dst (N := 1) rfl ?_); refine box_event ?hg (N := 1) ?hd (cs := #[.int .i64 a0_0, .int .i64 a0_1, .float .f64 a0_2, .string a0_3, .slice A0_4 l0_4.length c0_4, .slice A0_5 l0_5.length c0_5]) (t := 26) ?hr ?_; (case hd => rfl); (case hg => rfl); (case hr => first | (go_simp; done) | (go_simp; rfl)); intro gb254 hg w3 hbox hb; have n0_ := Aside0.mk (below_step (by repeat (first | (with_reducible first | exact HB.out | apply below_alloc | apply pw_below_drewN | apply below_drew1) | exact HB.out)) hb); have n1_ := Aside0.mk (hbox); have n2_ := Aside0.mk ((by rw [hg]; exact (below_size (by repeat (first | (with_reducible first | exact HB.out | apply below_alloc | apply pw_below_drewN | apply below_drew1) | exact HB.out))) : w.heap.size ≤ gb254)); have n3_ := Aside0.mk ((by rw [hg]; exact (below_size (by repeat (first | (with_reducible first | exact HB.out | apply below_alloc | apply pw_below_drewN | apply below_drew1) | exact HB.out))) : w.heap.size ≤ gb254)); clear HB; have HB := n0_; have BK254 := n1_; have GW254 := n2_; have GE254 := n3_; clear n0_ n1_ n2_ n3_; clear hb hbox hg; have hcz4_0 : w3.cell? ⟨gb254, 0, none⟩ = some (.int .i64 a0_0) := (blk_cell BK254.out 0).trans rfl; have hcz4_1 : w3.cell? ⟨gb254, 1, none⟩ = some (.int .i64 a0_1) := (blk_cell BK254.out 1).trans rfl; have hcz4_2 : w3.cell? ⟨gb254, 2, none⟩ = some (.float .f64 a0_2) := (blk_cell BK254.out 2).trans rfl; have hcz4_3 : w3.cell? ⟨gb254, 3, none⟩ = some (.string a0_3) := (blk_cell BK254.out 3).trans rfl; have hcz4_4 : w3.cell? ⟨gb254, 4, none⟩ = some (.slice A0_4 l0_4.length c0_4) := (blk_cell BK254.out 4).trans rfl; have hcz4_5 : w3.cell? ⟨gb254, 5, none⟩ = some (.slice A0_5 l0_5.length c0_5) := (blk_cell BK254.out 5).trans rfl; have hfz4_0 := blk_frozen BK254.out 0; have hfz4_1 := blk_frozen BK254.out 1; have hfz4_2 := blk_frozen BK254.out 2; have hfz4_3 := blk_frozen BK254.out 3; have hfz4_4 := blk_frozen BK254.out 4; have hfz4_5 := blk_frozen BK254.out 5))
      go_ret
      exact ⟨by first | rfl | (simp [errW_none, errW_some] <;> rfl) | (simp [*, errW_none, errW_some] <;> rfl), by repeat (first | (with_reducible first | exact HB.out | apply below_alloc | apply pw_below_drewN | apply below_drew1 | refine below_set ?_ GE254.out) | exact HB.out)⟩
  · rw [if_neg c2] at H
    have c2b0 : (a0_0 == 4) = false := beq_eq_false_iff_ne.mpr c2
    have c2b1 : (a0_0 != 4) = true := bne_iff_ne.mpr c2
    by_cases c5 : a0_0 = 5
    · rw [if_pos c5] at H
      have c5b0 : (a0_0 == 5) = true := beq_iff_eq.mpr c5
      have c5b1 : (a0_0 != 5) = false := bne_eq_false_iff_eq.mpr c5
      clear c5
      as_aux_lemma =>
        obtain rfl := Option.some.inj H
        go_enter Try.func25, Try.ntmps25
        go_wp2_with (first | ((with_reducible refine gate_dst (N := 1) rfl ?_); refine box_event ?hg (N := 1) ?hd (cs := #[.int .i64 a0_0, .int .i64 a0_1, .float .f64 a0_2, .string a0_3, .slice A0_4 l0_4.length c0_4, .slice A0_5 l0_5.length c0_5]) (t := 26) ?hr ?_; (case hd => rfl); (case hg => rfl); (case hr => first | (go_simp; done) | (go_simp; rfl)); intro gb254 hg w6 hbox hb; have n0_ := Aside0.mk (below_step (by repeat (first | (with_reducible first | exact HB.out | apply below_alloc | apply pw_below_drewN | apply below_drew1) | exact HB.out)) hb); have n1_ := Aside0.mk (hbox); have n2_ := Aside0.mk ((by rw [hg]; exact (below_size (by repeat (first | (with_reducible first | exact HB.out | apply below_alloc | apply pw_below_drewN | apply below_drew1) | exact HB.out))) : w.heap.size ≤ gb254)); have n3_ := Aside0.mk ((by rw [hg]; exact (below_size (by repeat (first | (with_reducible first | exact HB.out | apply below_alloc | apply pw_below_drewN | apply below_drew1) | exact HB.out))) : w.heap.size ≤ gb254)); clear HB; have HB := n0_; have BK254 := n1_; have GW254 := n2_; have GE254 := n3_; clear n0_ n1_ n2_ n3_; clear hb hbox hg; have hcz7_0 : w6.cell? ⟨gb254, 0, none⟩ = some (.int .i64 a0_0) := (blk_cell BK254.out 0).trans rfl; have hcz7_1 : w6.cell? ⟨gb254, 1, none⟩ = some (.int .i64 a0_1) := (blk_cell BK254.out 1).trans rfl; have hcz7_2 : w6.cell? ⟨gb254, 2, none⟩ = some (.float .f64 a0_2) := (blk_cell BK254.out 2).trans rfl; have hcz7_3 : w6.cell? ⟨gb254, 3, none⟩ = some (.string a0_3) := (blk_cell BK254.out 3).trans rfl; have hcz7_4 : w6.cell? ⟨gb254, 4, none⟩ = some (.slice A0_4 l0_4.length c0_4) := (blk_cell BK254.out 4).trans rfl; have hcz7_5 : w6.cell? ⟨gb254, 5, none⟩ = some (.slice A0_5 l0_5.length c0_5) := (blk_cell BK254.out 5).trans rfl; have hfz7_0 := blk_frozen BK254.out 0; have hfz7_1 := blk_frozen BK254.out 1; have hfz7_2 := blk_frozen BK254.out 2; have hfz7_3 := blk_frozen BK254.out 3; have hfz7_4 := blk_frozen BK254.out 4; have hfz7_5 := blk_frozen BK254.out 5))
        go_ret
        exact ⟨by first | rfl | (simp [errW_none, errW_some] <;> rfl) | (simp [*, errW_none, errW_some] <;> rfl), by repeat (first | (with_reducible first | exact HB.out | apply below_alloc | apply pw_below_drewN | apply below_drew1 | refine below_set ?_ GE254.out) | exact HB.out)⟩
    · rw [if_neg c5] at H
      have c5b0 : (a0_0 == 5) = false := beq_eq_false_iff_ne.mpr c5
      have c5b1 : (a0_0 != 5) = true := bne_iff_ne.mpr c5
      have HC8 := Aside0.mk H
      clear H
      go_enter Try.func25, Try.ntmps25
      go_upto_if 15 with (first | ((with_reducible refine gate_dst (N := 1) rfl ?_); refine box_event ?hg (N := 1) ?hd (cs := #[.int .i64 a0_0, .int .i64 a0_1, .float .f64 a0_2, .string a0_3, .slice A0_4 l0_4.length c0_4, .slice A0_5 l0_5.length c0_5]) (t := 26) ?hr ?_; (case hd => rfl); (case hg => rfl); (case hr => first | (go_simp; done) | (go_simp; rfl)); intro gb254 hg w9 hbox hb; have n0_ := Aside0.mk (below_step (by repeat (first | (with_reducible first | exact HB.out | apply below_alloc | apply pw_below_drewN | apply below_drew1) | exact HB.out)) hb); have n1_ := Aside0.mk (hbox); have n2_ := Aside0.mk ((by rw [hg]; exact (below_size (by repeat (first | (with_reducible first | exact HB.out | apply below_alloc | apply pw_below_drewN | apply below_drew1) | exact HB.out))) : w.heap.size ≤ gb254)); have n3_ := Aside0.mk ((by rw [hg]; exact (below_size (by repeat (first | (with_reducible first | exact HB.out | apply below_alloc | apply pw_below_drewN | apply below_drew1) | exact HB.out))) : w.heap.size ≤ gb254)); clear HB; have HB := n0_; have BK254 := n1_; have GW254 := n2_; have GE254 := n3_; clear n0_ n1_ n2_ n3_; clear hb hbox hg; have hcz10_0 : w9.cell? ⟨gb254, 0, none⟩ = some (.int .i64 a0_0) := (blk_cell BK254.out 0).trans rfl; have hcz10_1 : w9.cell? ⟨gb254, 1, none⟩ = some (.int .i64 a0_1) := (blk_cell BK254.out 1).trans rfl; have hcz10_2 : w9.cell? ⟨gb254, 2, none⟩ = some (.float .f64 a0_2) := (blk_cell BK254.out 2).trans rfl; have hcz10_3 : w9.cell? ⟨gb254, 3, none⟩ = some (.string a0_3) := (blk_cell BK254.out 3).trans rfl; have hcz10_4 : w9.cell? ⟨gb254, 4, none⟩ = some (.slice A0_4 l0_4.length c0_4) := (blk_cell BK254.out 4).trans rfl; have hcz10_5 : w9.cell? ⟨gb254, 5, none⟩ = some (.slice A0_5 l0_5.length c0_5) := (blk_cell BK254.out 5).trans rfl; have hfz10_0 := blk_frozen BK254.out 0; have hfz10_1 := blk_frozen BK254.out 1; have hfz10_2 := blk_frozen BK254.out 2; have hfz10_3 := blk_frozen BK254.out 3; have hfz10_4 := blk_frozen BK254.out 4; have hfz10_5 := blk_frozen BK254.out 5))
      (try simp only [Act.put, List.setIfInBounds_toArray, List.set_cons_zero, List.set_cons_succ])
      go_cut [15] (fun v15 wc => ∃ (kq : Nat) (x15_7 : Bool), v15 = .bool x15_7 ∧ Aside0 (spec_Empty.j0 kq x15_7 a0_0 a0_1 a0_2 a0_3 l0_4 l0_5 = some r) ∧ Aside0 (kq ≤ k) ∧ Aside0 (wc.heap[gb254]? = some (.cells #[.int .i64 a0_0, .int .i64 a0_1, .float .f64 a0_2, .string a0_3, (.slice A0_4 l0_4.length c0_4), (.slice A0_5 l0_5.length c0_5)] 26 (0, 0))) ∧ Aside0 (Below w.heap.size w wc))
      case first =>
        have H := HC8.out
        clear HC8
        by_cases c11 : a0_0 = 6
        · rw [if_pos c11] at H
          have c11b0 : (a0_0 == 6) = true := beq_iff_eq.mpr c11
          have c11b1 : (a0_0 != 6) = false := bne_eq_false_iff_eq.mpr c11
          clear c11
          (first | rw [c11b0] | (simp only [i64_w, i32_w]; rw [c11b0]) | skip)
          as_aux_lemma =>
            have H' := Aside0.mk H
            clear H
            go_wp2
            go_meet
            case rel => exact ⟨_, ((a0_0 == 6)), (by first | rfl | (simp only [bytesLe_not]; done) | (simp; done) | (simp [*]; done)), H', ⟨by first | omega | exact Nat.le_refl _⟩, ⟨by (with_reducible repeat (first | refine blk_drewN ?_ _ | refine blk_drew ?_ | refine blk_alloc ?_ _)); exact BK254.out⟩, ⟨by repeat (first | (with_reducible first | exact HB.out | apply below_alloc | apply pw_below_drewN | apply below_drew1 | refine below_set ?_ GE254.out) | exact HB.out)⟩⟩
        · rw [if_neg c11] at H
          have c11b0 : (a0_0 == 6) = false := beq_eq_false_iff_ne.mpr c11
          have c11b1 : (a0_0 != 6) = true := bne_iff_ne.mpr c11
          (first | rw [c11b0] | (simp only [i64_w, i32_w]; rw [c11b0]) | skip)
          as_aux_lemma =>
            have H' := Aside0.mk H
            clear H
            go_wp2
            go_meet
            case rel => exact ⟨_, ((a0_0 == 7)), (by first | rfl | (simp only [bytesLe_not]; done) | (simp; done) | (simp [*]; done)), H', ⟨by first | omega | exact Nat.le_refl _⟩, ⟨by (with_reducible repeat (first | refine blk_drewN ?_ _ | refine blk_drew ?_ | refine blk_alloc ?_ _)); exact BK254.out⟩, ⟨by repeat (first | (with_reducible first | exact HB.out | apply below_alloc | apply pw_below_drewN | apply below_drew1 | refine below_set ?_ GE254.out) | exact HB.out)⟩⟩
      case rest =>
        clear HC8
        try clear c1
        try clear c2
        try clear c2b0
        try clear c2b1
        try clear p2
        try clear c5
        try clear c5b0
        try clear c5b1
        try clear c11
        try clear c11b0
        try clear c11b1
        try clear hcz10_0
        try clear hcz10_1
        try clear hcz10_2
        try clear hcz10_3
        try clear hcz10_4
        try clear hcz10_5
        try clear hcz4_0
        try clear hcz4_1
        try clear hcz4_2
        try clear hcz4_3
        try clear hcz4_4
        try clear hcz4_5
        try clear hcz7_0
        try clear hcz7_1
        try clear hcz7_2
        try clear hcz7_3
        try clear hcz7_4
        try clear hcz7_5
        try clear hfz10_0
        try clear hfz10_1
        try clear hfz10_2
        try clear hfz10_3
        try clear hfz10_4
        try clear hfz10_5
        try clear hfz4_0
        try clear hfz4_1
        try clear hfz4_2
        try clear hfz4_3
        try clear hfz4_4
        try clear hfz4_5
        try clear hfz7_0
        try clear hfz7_1
        try clear hfz7_2
        try clear hfz7_3
        try clear hfz7_4
        try clear hfz7_5
        obtain ⟨kq, x15_7, rfl, HA, HJ7, BK254, HB⟩ := hcut
        cases kq with
        | zero => exact absurd HA.out (by simp [spec_Empty.j0])
        | succ kj7 =>
          have H := HA.out
          clear HA
          simp only [spec_Empty.j0] at H
          by_cases c12 : x15_7 = true
          · subst c12
            have H1 : (some ((l0_5.length : Int) == 0)) = some r := by rw [if_pos rfl] at H; exact H
            clear H
            have H := H1
            clear H1
            as_aux_lemma =>
              obtain rfl := Option.some.inj H
              have hcz13_0 : wc.cell? ⟨gb254, 0, none⟩ = some (.int .i64 a0_0) := (blk_cell BK254.out 0).trans rfl
              have hcz13_1 : wc.cell? ⟨gb254, 1, none⟩ = some (.int .i64 a0_1) := (blk_cell BK254.out 1).trans rfl
              have hcz13_2 : wc.cell? ⟨gb254, 2, none⟩ = some (.float .f64 a0_2) := (blk_cell BK254.out 2).trans rfl
              have hcz13_3 : wc.cell? ⟨gb254, 3, none⟩ = some (.string a0_3) := (blk_cell BK254.out 3).trans rfl
              have hcz13_4 : wc.cell? ⟨gb254, 4, none⟩ = some (.slice A0_4 l0_4.length c0_4) := (blk_cell BK254.out 4).trans rfl
              have hcz13_5 : wc.cell? ⟨gb254, 5, none⟩ = some (.slice A0_5 l0_5.length c0_5) := (blk_cell BK254.out 5).trans rfl
              have hfz13_0 := blk_frozen BK254.out 0
              have hfz13_1 := blk_frozen BK254.out 1
              have hfz13_2 := blk_frozen BK254.out 2
              have hfz13_3 := blk_frozen BK254.out 3
              have hfz13_4 := blk_frozen BK254.out 4
              have hfz13_5 := blk_frozen BK254.out 5
              go_wp2
              go_ret
              exact ⟨by first | rfl | (simp [errW_none, errW_some] <;> rfl) | (simp [*, errW_none, errW_some] <;> rfl), by repeat (first | (with_reducible first | exact HB.out | apply below_alloc | apply pw_below_drewN | apply below_drew1 | refine below_set ?_ GE254.out) | exact HB.out)⟩
          · replace c12 := Bool.eq_false_iff.mpr c12
            subst c12
            have H1 : (some (a0_1 == 0)) = some r := by rw [if_neg (show ¬ (false = true) by decide)] at H; exact H
            clear H
            have H := H1
            clear H1
            as_aux_lemma =>
              obtain rfl := Option.some.inj H
              have hcz14_0 : wc.cell? ⟨gb254, 0, none⟩ = some (.int .i64 a0_0) := (blk_cell BK254.out 0).trans rfl
              have hcz14_1 : wc.cell? ⟨gb254, 1, none⟩ = some (.int .i64 a0_1) := (blk_cell BK254.out 1).trans rfl
              have hcz14_2 : wc.cell? ⟨gb254, 2, none⟩ = some (.float .f64 a0_2) := (blk_cell BK254.out 2).trans rfl
              have hcz14_3 : wc.cell? ⟨gb254, 3, none⟩ = some (.string a0_3) := (blk_cell BK254.out 3).trans rfl
              have hcz14_4 : wc.cell? ⟨gb254, 4, none⟩ = some (.slice A0_4 l0_4.length c0_4) := (blk_cell BK254.out 4).trans rfl
              have hcz14_5 : wc.cell? ⟨gb254, 5, none⟩ = some (.slice A0_5 l0_5.length c0_5) := (blk_cell BK254.out 5).trans rfl
              have hfz14_0 := blk_frozen BK254.out 0
              have hfz14_1 := blk_frozen BK254.out 1
              have hfz14_2 := blk_frozen BK254.out 2
              have hfz14_3 := blk_frozen BK254.out 3
              have hfz14_4 := blk_frozen BK254.out 4
              have hfz14_5 := blk_frozen BK254.out 5
              go_wp2
              go_ret
              exact ⟨by first | rfl | (simp [errW_none, errW_some] <;> rfl) | (simp [*, errW_none, errW_some] <;> rfl), by repeat (first | (with_reducible first | exact HB.out | apply below_alloc | apply pw_below_drewN | apply below_drew1 | refine below_set ?_ GE254.out) | exact HB.out)⟩

end Go.Proofs.Ytlefdkemgfjieaa.P
