-- WRITTEN by xprint.py (a program of this session, over the kit's print) out of the translation. Not trusted: Lean checks it.
import Derived.Test.YtlefdkemgfjieaaPx0
import Derived.Test.YtlefdkemgfjieaaPx3
namespace Go.Proofs.Ytlefdkemgfjieaa.P
open Go.RowKit Go.Proofs.YtlefdkemgfjieaaW.PrintWords Go.Proofs.YtlefdkemgfjieaaW.PrintLast Go.Proofs.YtlefdkemgfjieaaW.PrintMore
attribute [local go_sem] max2_int min2_int max_two min_two max_three min_three max_four min_four run_store_float   -- for this text's walks alone
set_option linter.unusedVariables false
set_option linter.unusedSimpArgs false

/-! ### laws_dictionary: function 17 -/
def laws_dictionary.f (k : Nat) (a0_0 : Int) (a0_1 : Int) (a0_2 : Nat) (a0_3 : ByteArray) (l0_4 : List ByteArray) (l0_5 : List (S26)) : Option (Bool) := if a0_0 = 7 then ((spec_Right.f k a0_0 a0_1 a0_2 a0_3 l0_4 l0_5).bind fun t280 => (some t280)) else (some false)
theorem laws_dictionary.mono : ∀ a0 a1 a2 a3 a4 a5 k, LeO (laws_dictionary.f k a0 a1 a2 a3 a4 a5) (laws_dictionary.f (k + 1) a0 a1 a2 a3 a4 a5) := by
  intro a0 a1 a2 a3 a4 a5 k
  unfold laws_dictionary.f
  repeat' first
      | (with_reducible exact spec_Right.mono _ _ _ _ _ _ _)
      | (with_reducible exact LeO.refl _)
      | (with_reducible exact LeO.none _)
      | (with_reducible refine LeO.ite ?_ ?_)
      | (with_reducible refine LeO.bind ?_ (fun _ => ?_))
      | exact spec_Right.mono _ _ _ _ _ _ _
      | exact LeO.none _
      | refine LeO.ite ?_ ?_
      | refine LeO.bind ?_ (fun _ => ?_)
set_option maxHeartbeats 8000000 in
set_option maxRecDepth 100000 in
theorem laws_dictionary.calls (k : Nat) (a0_0 : Int) (a0_1 : Int) (a0_2 : Nat) (a0_3 : ByteArray) (A0_4 : Option Addr) (c0_4 : Nat) (l0_4 : List ByteArray) (A0_5 : Option Addr) (c0_5 : Nat) (l0_5 : List (S26)) (r : Bool) (w : World) (hr0_4 : Kd.C Kd.string w A0_4 l0_4.length l0_4) (hc0_4 : l0_4.length ≤ c0_4) (hr0_5 : Kd.C k26 w A0_5 l0_5.length l0_5) (hc0_5 : l0_5.length ≤ c0_5) (h : laws_dictionary.f k a0_0 a0_1 a0_2 a0_3 l0_4 l0_5 = some r) :
    Calls Try.prog 17 #[.agg #[.int .i64 a0_0, .int .i64 a0_1, .float .f64 a0_2, .string a0_3, .slice A0_4 l0_4.length c0_4, .slice A0_5 l0_5.length c0_5]] w fun e w' => e = .returned (.bool r) ∧ Below w.heap.size w w' := by
  have hu26 := Try.underlying26
  have HR0_4 := Aside0.mk hr0_4
  have HC0_4 := Aside0.mk hc0_4
  clear hr0_4 hc0_4
  have HR0_5 := Aside0.mk hr0_5
  have HC0_5 := Aside0.mk hc0_5
  clear hr0_5 hc0_5
  have HB := Aside0.mk (Below.refl w.heap.size w)
  have H : (if a0_0 = 7 then ((spec_Right.f k a0_0 a0_1 a0_2 a0_3 l0_4 l0_5).bind fun t280 => (some t280)) else (some false)) = some r := h
  clear h
  by_cases c2 : a0_0 = 7
  · rw [if_pos c2] at H
    have c2b0 : (a0_0 == 7) = true := beq_iff_eq.mpr c2
    have c2b1 : (a0_0 != 7) = false := bne_eq_false_iff_eq.mpr c2
    clear c2
    replace H := Option.bind_eq_some_iff.mp H
    obtain ⟨t280, A30, H⟩ := H
    replace H : (some t280) = some r := H
    have A3 := Aside0.mk A30
    clear A30
    as_aux_lemma =>
      obtain rfl := Option.some.inj H
      go_enter Try.func17, Try.ntmps17
      go_wp2_with (first | ((with_reducible refine gate_dst (N := 1) rfl ?_); refine box_event ?hg (N := 1) ?hd (cs := #[.int .i64 a0_0, .int .i64 a0_1, .float .f64 a0_2, .string a0_3, .slice A0_4 l0_4.length c0_4, .slice A0_5 l0_5.length c0_5]) (t := 26) ?hr ?_; (case hd => rfl); (case hg => rfl); (case hr => first | (go_simp; done) | (go_simp; rfl)); intro gb279 hg w4 hbox hb; have n0_ := Aside0.mk (below_step (by repeat (first | (with_reducible first | exact HB.out | apply below_alloc | apply pw_below_drewN | apply below_drew1) | exact HB.out)) hb); have n1_ := Aside0.mk (hbox); have n2_ := Aside0.mk ((by rw [hg]; exact (below_size (by repeat (first | (with_reducible first | exact HB.out | apply below_alloc | apply pw_below_drewN | apply below_drew1) | exact HB.out))) : w.heap.size ≤ gb279)); have n3_ := Aside0.mk ((by rw [hg]; exact (below_size (by repeat (first | (with_reducible first | exact HB.out | apply below_alloc | apply pw_below_drewN | apply below_drew1) | exact HB.out))) : w.heap.size ≤ gb279)); clear HB; have HB := n0_; have BK279 := n1_; have GW279 := n2_; have GE279 := n3_; clear n0_ n1_ n2_ n3_; clear hb hbox hg; have hcz5_0 : w4.cell? ⟨gb279, 0, none⟩ = some (.int .i64 a0_0) := (blk_cell BK279.out 0).trans rfl; have hcz5_1 : w4.cell? ⟨gb279, 1, none⟩ = some (.int .i64 a0_1) := (blk_cell BK279.out 1).trans rfl; have hcz5_2 : w4.cell? ⟨gb279, 2, none⟩ = some (.float .f64 a0_2) := (blk_cell BK279.out 2).trans rfl; have hcz5_3 : w4.cell? ⟨gb279, 3, none⟩ = some (.string a0_3) := (blk_cell BK279.out 3).trans rfl; have hcz5_4 : w4.cell? ⟨gb279, 4, none⟩ = some (.slice A0_4 l0_4.length c0_4) := (blk_cell BK279.out 4).trans rfl; have hcz5_5 : w4.cell? ⟨gb279, 5, none⟩ = some (.slice A0_5 l0_5.length c0_5) := (blk_cell BK279.out 5).trans rfl; have hfz5_0 := blk_frozen BK279.out 0; have hfz5_1 := blk_frozen BK279.out 1; have hfz5_2 := blk_frozen BK279.out 2; have hfz5_3 := blk_frozen BK279.out 3; have hfz5_4 := blk_frozen BK279.out 4; have hfz5_5 := blk_frozen BK279.out 5) | (go_at_call 14; (with_reducible refine (spec_Right.calls k a0_0 a0_1 a0_2 a0_3 _ _ l0_4 _ _ l0_5 t280 _ ?side1 ?side2 ?side3 ?side4 A3.out).mono ?_); (case side1 => repeat (first | exact (Kd.C_below HR0_4.out HB.out) | (with_reducible refine Kd.C_alloc ?_ _) | (with_reducible refine Kd.C_drewN ?_ _) | (with_reducible refine Kd.C_drew ?_))); (case side2 => exact HC0_4.out); (case side3 => repeat (first | exact (Kd.C_below HR0_5.out HB.out) | (with_reducible refine Kd.C_alloc ?_ _) | (with_reducible refine Kd.C_drewN ?_ _) | (with_reducible refine Kd.C_drew ?_))); (case side4 => exact HC0_5.out); rintro e w6 ⟨rfl, hb⟩; have n0_ := Aside0.mk (blk_below (g := gb279) (o := .cells #[.int .i64 a0_0, .int .i64 a0_1, .float .f64 a0_2, .string a0_3, .slice A0_4 l0_4.length c0_4, .slice A0_5 l0_5.length c0_5] 26 (0, 0)) (by (with_reducible repeat (first | refine blk_drewN ?_ _ | refine blk_drew ?_ | refine blk_alloc ?_ _)); exact BK279.out) hb); have n1_ := Aside0.mk (below_step (by repeat (first | (with_reducible first | exact HB.out | apply below_alloc | apply pw_below_drewN | apply below_drew1 | refine below_set ?_ GE279.out) | exact HB.out)) hb); clear BK279; clear HB; have BK279 := n0_; have HB := n1_; clear n0_ n1_; (try clear hb); (try clear hb2); (try clear hk); (try clear hi)))
      go_ret
      exact ⟨by first | rfl | (simp [errW_none, errW_some] <;> rfl) | (simp [*, errW_none, errW_some] <;> rfl), by repeat (first | (with_reducible first | exact HB.out | apply below_alloc | apply pw_below_drewN | apply below_drew1 | refine below_set ?_ GE279.out) | exact HB.out)⟩
  · rw [if_neg c2] at H
    have c2b0 : (a0_0 == 7) = false := beq_eq_false_iff_ne.mpr c2
    have c2b1 : (a0_0 != 7) = true := bne_iff_ne.mpr c2
    as_aux_lemma =>
      obtain rfl := Option.some.inj H
      go_enter Try.func17, Try.ntmps17
      go_wp2_with (first | ((with_reducible refine gate_dst (N := 1) rfl ?_); refine box_event ?hg (N := 1) ?hd (cs := #[.int .i64 a0_0, .int .i64 a0_1, .float .f64 a0_2, .string a0_3, .slice A0_4 l0_4.length c0_4, .slice A0_5 l0_5.length c0_5]) (t := 26) ?hr ?_; (case hd => rfl); (case hg => rfl); (case hr => first | (go_simp; done) | (go_simp; rfl)); intro gb279 hg w7 hbox hb; have n0_ := Aside0.mk (below_step (by repeat (first | (with_reducible first | exact HB.out | apply below_alloc | apply pw_below_drewN | apply below_drew1) | exact HB.out)) hb); have n1_ := Aside0.mk (hbox); have n2_ := Aside0.mk ((by rw [hg]; exact (below_size (by repeat (first | (with_reducible first | exact HB.out | apply below_alloc | apply pw_below_drewN | apply below_drew1) | exact HB.out))) : w.heap.size ≤ gb279)); have n3_ := Aside0.mk ((by rw [hg]; exact (below_size (by repeat (first | (with_reducible first | exact HB.out | apply below_alloc | apply pw_below_drewN | apply below_drew1) | exact HB.out))) : w.heap.size ≤ gb279)); clear HB; have HB := n0_; have BK279 := n1_; have GW279 := n2_; have GE279 := n3_; clear n0_ n1_ n2_ n3_; clear hb hbox hg; have hcz8_0 : w7.cell? ⟨gb279, 0, none⟩ = some (.int .i64 a0_0) := (blk_cell BK279.out 0).trans rfl; have hcz8_1 : w7.cell? ⟨gb279, 1, none⟩ = some (.int .i64 a0_1) := (blk_cell BK279.out 1).trans rfl; have hcz8_2 : w7.cell? ⟨gb279, 2, none⟩ = some (.float .f64 a0_2) := (blk_cell BK279.out 2).trans rfl; have hcz8_3 : w7.cell? ⟨gb279, 3, none⟩ = some (.string a0_3) := (blk_cell BK279.out 3).trans rfl; have hcz8_4 : w7.cell? ⟨gb279, 4, none⟩ = some (.slice A0_4 l0_4.length c0_4) := (blk_cell BK279.out 4).trans rfl; have hcz8_5 : w7.cell? ⟨gb279, 5, none⟩ = some (.slice A0_5 l0_5.length c0_5) := (blk_cell BK279.out 5).trans rfl; have hfz8_0 := blk_frozen BK279.out 0; have hfz8_1 := blk_frozen BK279.out 1; have hfz8_2 := blk_frozen BK279.out 2; have hfz8_3 := blk_frozen BK279.out 3; have hfz8_4 := blk_frozen BK279.out 4; have hfz8_5 := blk_frozen BK279.out 5))
      go_ret
      exact ⟨by first | rfl | (simp [errW_none, errW_some] <;> rfl) | (simp [*, errW_none, errW_some] <;> rfl), by repeat (first | (with_reducible first | exact HB.out | apply below_alloc | apply pw_below_drewN | apply below_drew1 | refine below_set ?_ GE279.out) | exact HB.out)⟩


/-! ### spec_At: function 18 -/
def spec_At.l0 : Nat → ByteArray → Int → Int → Int → Nat → ByteArray → List ByteArray → List (S26) → Option (Int × Bool)
  | 0, _, _, _, _, _, _, _, _ => none
  | k + 1, x1, x6, x282000, x282001, x282002, x282003, x282004, x282005 => if x6 < (x282004.length : Int) then (if 0 ≤ x6 then (if (Op.bytesLess ((rdOf ByteArray.empty x282004 x6).toList) x1.toList) = true then (spec_At.l0 k x1 (wrap64 (x6 + 1)) x282000 x282001 x282002 x282003 x282004 x282005) else (some (x6, ((rdOf ByteArray.empty x282004 x6).toList == x1.toList)))) else (none)) else (some (x6, false))
def spec_At.f (k : Nat) (a0_0 : Int) (a0_1 : Int) (a0_2 : Nat) (a0_3 : ByteArray) (l0_4 : List ByteArray) (l0_5 : List (S26)) (a1 : ByteArray) : Option (Int × Bool) := spec_At.l0 k a1 0 a0_0 a0_1 a0_2 a0_3 l0_4 l0_5
theorem spec_At.mono_l : ∀ k, (∀ y0 y1 y2 y3 y4 y5 y6 y7, LeO (spec_At.l0 k y0 y1 y2 y3 y4 y5 y6 y7) (spec_At.l0 (k + 1) y0 y1 y2 y3 y4 y5 y6 y7))
  | 0 => fun _ _ _ _ _ _ _ _ r h => by simp [spec_At.l0] at h
  | k + 1 => by
    have ih0 := spec_At.mono_l k
    · intro y0 y1 y2 y3 y4 y5 y6 y7
      unfold spec_At.l0
      repeat' first
      | (with_reducible exact ih0 _ _ _ _ _ _ _ _)
      | (with_reducible exact LeO.refl _)
      | (with_reducible exact LeO.none _)
      | (with_reducible refine LeO.ite ?_ ?_)
      | (with_reducible refine LeO.bind ?_ (fun _ => ?_))
      | exact ih0 _ _ _ _ _ _ _ _
      | exact LeO.none _
      | refine LeO.ite ?_ ?_
      | refine LeO.bind ?_ (fun _ => ?_)
theorem spec_At.mono : ∀ a0 a1 a2 a3 a4 a5 a6 k, LeO (spec_At.f k a0 a1 a2 a3 a4 a5 a6) (spec_At.f (k + 1) a0 a1 a2 a3 a4 a5 a6) := by
  intro a0 a1 a2 a3 a4 a5 a6 k
  have ih0 := spec_At.mono_l k
  unfold spec_At.f
  repeat' first
      | (with_reducible exact ih0 _ _ _ _ _ _ _ _)
      | (with_reducible exact LeO.refl _)
      | (with_reducible exact LeO.none _)
      | (with_reducible refine LeO.ite ?_ ?_)
      | (with_reducible refine LeO.bind ?_ (fun _ => ?_))
      | exact ih0 _ _ _ _ _ _ _ _
      | exact LeO.none _
      | refine LeO.ite ?_ ?_
      | refine LeO.bind ?_ (fun _ => ?_)
set_option maxHeartbeats 8000000 in
set_option maxRecDepth 100000 in
theorem spec_At.calls (k : Nat) (a0_0 : Int) (a0_1 : Int) (a0_2 : Nat) (a0_3 : ByteArray) (A0_4 : Option Addr) (c0_4 : Nat) (l0_4 : List ByteArray) (A0_5 : Option Addr) (c0_5 : Nat) (l0_5 : List (S26)) (a1 : ByteArray) (r1 : Int) (r2 : Bool) (w : World) (hr0_4 : Kd.C Kd.string w A0_4 l0_4.length l0_4) (hc0_4 : l0_4.length ≤ c0_4) (hr0_5 : Kd.C k26 w A0_5 l0_5.length l0_5) (hc0_5 : l0_5.length ≤ c0_5) (h : spec_At.f k a0_0 a0_1 a0_2 a0_3 l0_4 l0_5 a1 = some (r1, r2)) :
    Calls Try.prog 18 #[.agg #[.int .i64 a0_0, .int .i64 a0_1, .float .f64 a0_2, .string a0_3, .slice A0_4 l0_4.length c0_4, .slice A0_5 l0_5.length c0_5], .string a1] w fun e w' => e = .returned (.tuple #[.int .i64 r1, .bool r2]) ∧ Below w.heap.size w w' := by
  have hu26 := Try.underlying26
  have HR0_4 := Aside0.mk hr0_4
  have HC0_4 := Aside0.mk hc0_4
  clear hr0_4 hc0_4
  have HR0_5 := Aside0.mk hr0_5
  have HC0_5 := Aside0.mk hc0_5
  clear hr0_5 hc0_5
  have HB := Aside0.mk (Below.refl w.heap.size w)
  have H : (spec_At.l0 k a1 0 a0_0 a0_1 a0_2 a0_3 l0_4 l0_5) = some (r1, r2) := h
  clear h
  have H' := Aside0.mk H
  clear H
  go_enter Try.func18, Try.ntmps18
  go_wp2_with (first | ((with_reducible refine gate_dst (N := 2) rfl ?_); refine box_event ?hg (N := 2) ?hd (cs := #[.int .i64 a0_0, .int .i64 a0_1, .float .f64 a0_2, .string a0_3, .slice A0_4 l0_4.length c0_4, .slice A0_5 l0_5.length c0_5]) (t := 26) ?hr ?_; (case hd => rfl); (case hg => rfl); (case hr => first | (go_simp; done) | (go_simp; rfl)); intro gb281 hg w3 hbox hb; have n0_ := Aside0.mk (below_step (by repeat (first | (with_reducible first | exact HB.out | apply below_alloc | apply pw_below_drewN | apply below_drew1) | exact HB.out)) hb); have n1_ := Aside0.mk (hbox); have n2_ := Aside0.mk ((by rw [hg]; exact (below_size (by repeat (first | (with_reducible first | exact HB.out | apply below_alloc | apply pw_below_drewN | apply below_drew1) | exact HB.out))) : w.heap.size ≤ gb281)); have n3_ := Aside0.mk ((by rw [hg]; exact (below_size (by repeat (first | (with_reducible first | exact HB.out | apply below_alloc | apply pw_below_drewN | apply below_drew1) | exact HB.out))) : w.heap.size ≤ gb281)); clear HB; have HB := n0_; have BK281 := n1_; have GW281 := n2_; have GE281 := n3_; clear n0_ n1_ n2_ n3_; clear hb hbox hg))
  repeat (go_quiet (first | ((with_reducible refine gate_dst (N := 2) rfl ?_); refine box_event ?hg (N := 2) ?hd (cs := #[.int .i64 a0_0, .int .i64 a0_1, .float .f64 a0_2, .string a0_3, .slice A0_4 l0_4.length c0_4, .slice A0_5 l0_5.length c0_5]) (t := 26) ?hr ?_; (case hd => rfl); (case hg => rfl); (case hr => first | (go_simp; done) | (go_simp; rfl)); intro gb281 hg w3 hbox hb; have n0_ := Aside0.mk (below_step (by repeat (first | (with_reducible first | exact HB.out | apply below_alloc | apply pw_below_drewN | apply below_drew1) | exact HB.out)) hb); have n1_ := Aside0.mk (hbox); have n2_ := Aside0.mk ((by rw [hg]; exact (below_size (by repeat (first | (with_reducible first | exact HB.out | apply below_alloc | apply pw_below_drewN | apply below_drew1) | exact HB.out))) : w.heap.size ≤ gb281)); have n3_ := Aside0.mk ((by rw [hg]; exact (below_size (by repeat (first | (with_reducible first | exact HB.out | apply below_alloc | apply pw_below_drewN | apply below_drew1) | exact HB.out))) : w.heap.size ≤ gb281)); clear HB; have HB := n0_; have BK281 := n1_; have GW281 := n2_; have GE281 := n3_; clear n0_ n1_ n2_ n3_; clear hb hbox hg)); try go_wp2_with (first | ((with_reducible refine gate_dst (N := 2) rfl ?_); refine box_event ?hg (N := 2) ?hd (cs := #[.int .i64 a0_0, .int .i64 a0_1, .float .f64 a0_2, .string a0_3, .slice A0_4 l0_4.length c0_4, .slice A0_5 l0_5.length c0_5]) (t := 26) ?hr ?_; (case hd => rfl); (case hg => rfl); (case hr => first | (go_simp; done) | (go_simp; rfl)); intro gb281 hg w3 hbox hb; have n0_ := Aside0.mk (below_step (by repeat (first | (with_reducible first | exact HB.out | apply below_alloc | apply pw_below_drewN | apply below_drew1) | exact HB.out)) hb); have n1_ := Aside0.mk (hbox); have n2_ := Aside0.mk ((by rw [hg]; exact (below_size (by repeat (first | (with_reducible first | exact HB.out | apply below_alloc | apply pw_below_drewN | apply below_drew1) | exact HB.out))) : w.heap.size ≤ gb281)); have n3_ := Aside0.mk ((by rw [hg]; exact (below_size (by repeat (first | (with_reducible first | exact HB.out | apply below_alloc | apply pw_below_drewN | apply below_drew1) | exact HB.out))) : w.heap.size ≤ gb281)); clear HB; have HB := n0_; have BK281 := n1_; have GW281 := n2_; have GE281 := n3_; clear n0_ n1_ n2_ n3_; clear hb hbox hg)))
  go_loopg [6] k (fun kq v6 w' => ∃ (x6_1 : Int), v6 = .int .i64 x6_1 ∧ Aside0 (spec_At.l0 kq a1 x6_1 a0_0 a0_1 a0_2 a0_3 l0_4 l0_5 = some (r1, r2)) ∧ Aside0 (kq ≤ k) ∧ Aside0 (w'.heap[gb281]? = some (.cells #[.int .i64 a0_0, .int .i64 a0_1, .float .f64 a0_2, .string a0_3, (.slice A0_4 l0_4.length c0_4), (.slice A0_5 l0_5.length c0_5)] 26 (0, 0))) ∧ Aside0 (Below w.heap.size w w'))
  case atStart => exact ⟨(0), (by first | rfl | (simp only [bytesLe_not]; done) | (simp; done) | (simp [*]; done)), H', ⟨Nat.le_refl _⟩, ⟨by (with_reducible repeat (first | refine blk_drewN ?_ _ | refine blk_drew ?_ | refine blk_alloc ?_ _)); exact BK281.out⟩, ⟨by repeat (first | (with_reducible first | exact HB.out | apply below_alloc | apply pw_below_drewN | apply below_drew1 | refine below_set ?_ GE281.out) | exact HB.out)⟩⟩
  case round =>
    clear H'
    try clear c1
    try clear p2
    obtain ⟨x6_1, rfl, HA, HK1, BK281, HB⟩ := hrel
    cases gk with
    | zero => exact absurd HA.out (by simp [spec_At.l0])
    | succ k1 =>
      have H := HA.out
      clear HA
      simp only [spec_At.l0] at H
      by_cases c4 : x6_1 < (l0_4.length : Int)
      · rw [if_pos c4] at H
        have c4b0 : decide (x6_1 < (l0_4.length : Int)) = true := decide_eq_true c4
        clear c4
        by_cases c5 : 0 ≤ x6_1
        · rw [if_pos c5] at H
          have c5b0 : decide (0 ≤ x6_1) = true := decide_eq_true c5
          clear c5
          by_cases c6 : (Op.bytesLess ((rdOf ByteArray.empty l0_4 x6_1).toList) a1.toList) = true
          · rw [if_pos c6] at H
            have c6b0 : (Op.bytesLess ((rdOf ByteArray.empty l0_4 x6_1).toList) a1.toList) = true := c6
            clear c6
            as_aux_lemma =>
              have H' := Aside0.mk H
              clear H
              have hcz7_0 : wr.cell? ⟨gb281, 0, none⟩ = some (.int .i64 a0_0) := (blk_cell BK281.out 0).trans rfl
              have hcz7_1 : wr.cell? ⟨gb281, 1, none⟩ = some (.int .i64 a0_1) := (blk_cell BK281.out 1).trans rfl
              have hcz7_2 : wr.cell? ⟨gb281, 2, none⟩ = some (.float .f64 a0_2) := (blk_cell BK281.out 2).trans rfl
              have hcz7_3 : wr.cell? ⟨gb281, 3, none⟩ = some (.string a0_3) := (blk_cell BK281.out 3).trans rfl
              have hcz7_4 : wr.cell? ⟨gb281, 4, none⟩ = some (.slice A0_4 l0_4.length c0_4) := (blk_cell BK281.out 4).trans rfl
              have hcz7_5 : wr.cell? ⟨gb281, 5, none⟩ = some (.slice A0_5 l0_5.length c0_5) := (blk_cell BK281.out 5).trans rfl
              have hfz7_0 := blk_frozen BK281.out 0
              have hfz7_1 := blk_frozen BK281.out 1
              have hfz7_2 := blk_frozen BK281.out 2
              have hfz7_3 := blk_frozen BK281.out 3
              have hfz7_4 := blk_frozen BK281.out 4
              have hfz7_5 := blk_frozen BK281.out 5
              have p282 : 0 ≤ (x6_1 : Int) := of_decide_eq_true (by first | (with_reducible assumption) | assumption)
              have q282 : x6_1 < (l0_4.length : Int) := of_decide_eq_true (by first | (with_reducible assumption) | assumption)
              obtain ⟨ad282, e282, hx282_0⟩ := Kd.at_string HR0_4.out x6_1 p282 q282
              cases e282
              replace hx282_0 := (HB.out.cell (World.block_lt_of_cell? w _ hx282_0)).trans hx282_0
              replace p282 := eq_true p282
              replace q282 := eq_true q282
              go_wp2
              repeat (go_quiet (fail); try go_wp2)
              go_roundg k1
              case measure => have := HK1.out; omega
              case rel => exact ⟨(wrap64 (x6_1 + 1)), (by first | rfl | (simp only [bytesLe_not]; done) | (simp; done) | (simp [*]; done)), H', ⟨by have := HK1.out; omega⟩, ⟨by (with_reducible repeat (first | refine blk_drewN ?_ _ | refine blk_drew ?_ | refine blk_alloc ?_ _)); exact BK281.out⟩, ⟨by repeat (first | (with_reducible first | exact HB.out | apply below_alloc | apply pw_below_drewN | apply below_drew1 | refine below_set ?_ GE281.out) | exact HB.out)⟩⟩
          · rw [if_neg c6] at H
            have c6b0 : (Op.bytesLess ((rdOf ByteArray.empty l0_4 x6_1).toList) a1.toList) = false := by simpa using c6
            clear c6
            as_aux_lemma =>
              simp only [Option.some.injEq, Prod.mk.injEq] at H
              obtain ⟨rfl, rfl⟩ := H
              have hcz8_0 : wr.cell? ⟨gb281, 0, none⟩ = some (.int .i64 a0_0) := (blk_cell BK281.out 0).trans rfl
              have hcz8_1 : wr.cell? ⟨gb281, 1, none⟩ = some (.int .i64 a0_1) := (blk_cell BK281.out 1).trans rfl
              have hcz8_2 : wr.cell? ⟨gb281, 2, none⟩ = some (.float .f64 a0_2) := (blk_cell BK281.out 2).trans rfl
              have hcz8_3 : wr.cell? ⟨gb281, 3, none⟩ = some (.string a0_3) := (blk_cell BK281.out 3).trans rfl
              have hcz8_4 : wr.cell? ⟨gb281, 4, none⟩ = some (.slice A0_4 l0_4.length c0_4) := (blk_cell BK281.out 4).trans rfl
              have hcz8_5 : wr.cell? ⟨gb281, 5, none⟩ = some (.slice A0_5 l0_5.length c0_5) := (blk_cell BK281.out 5).trans rfl
              have hfz8_0 := blk_frozen BK281.out 0
              have hfz8_1 := blk_frozen BK281.out 1
              have hfz8_2 := blk_frozen BK281.out 2
              have hfz8_3 := blk_frozen BK281.out 3
              have hfz8_4 := blk_frozen BK281.out 4
              have hfz8_5 := blk_frozen BK281.out 5
              have p282 : 0 ≤ (x6_1 : Int) := of_decide_eq_true (by first | (with_reducible assumption) | assumption)
              have q282 : x6_1 < (l0_4.length : Int) := of_decide_eq_true (by first | (with_reducible assumption) | assumption)
              obtain ⟨ad282, e282, hx282_0⟩ := Kd.at_string HR0_4.out x6_1 p282 q282
              cases e282
              replace hx282_0 := (HB.out.cell (World.block_lt_of_cell? w _ hx282_0)).trans hx282_0
              replace p282 := eq_true p282
              replace q282 := eq_true q282
              have p283 : 0 ≤ (x6_1 : Int) := of_decide_eq_true (by first | (with_reducible assumption) | assumption)
              have q283 : x6_1 < (l0_4.length : Int) := of_decide_eq_true (by first | (with_reducible assumption) | assumption)
              obtain ⟨ad283, e283, hx283_0⟩ := Kd.at_string HR0_4.out x6_1 p283 q283
              obtain rfl : ad282 = ad283 := (by injection e283)
              replace hx283_0 := (HB.out.cell (World.block_lt_of_cell? w _ hx283_0)).trans hx283_0
              replace p283 := eq_true p283
              replace q283 := eq_true q283
              go_wp2
              repeat (go_quiet (fail); try go_wp2)
              go_ret2
              exact ⟨by first | rfl | (simp [errW_none, errW_some] <;> rfl) | (simp [*, errW_none, errW_some] <;> rfl), by repeat (first | (with_reducible first | exact HB.out | apply below_alloc | apply pw_below_drewN | apply below_drew1 | refine below_set ?_ GE281.out) | exact HB.out)⟩
        · rw [if_neg c5] at H
          exact absurd H (by simp)
      · rw [if_neg c4] at H
        have c4b0 : decide (x6_1 < (l0_4.length : Int)) = false := decide_eq_false c4
        clear c4
        as_aux_lemma =>
          simp only [Option.some.injEq, Prod.mk.injEq] at H
          obtain ⟨rfl, rfl⟩ := H
          have hcz9_0 : wr.cell? ⟨gb281, 0, none⟩ = some (.int .i64 a0_0) := (blk_cell BK281.out 0).trans rfl
          have hcz9_1 : wr.cell? ⟨gb281, 1, none⟩ = some (.int .i64 a0_1) := (blk_cell BK281.out 1).trans rfl
          have hcz9_2 : wr.cell? ⟨gb281, 2, none⟩ = some (.float .f64 a0_2) := (blk_cell BK281.out 2).trans rfl
          have hcz9_3 : wr.cell? ⟨gb281, 3, none⟩ = some (.string a0_3) := (blk_cell BK281.out 3).trans rfl
          have hcz9_4 : wr.cell? ⟨gb281, 4, none⟩ = some (.slice A0_4 l0_4.length c0_4) := (blk_cell BK281.out 4).trans rfl
          have hcz9_5 : wr.cell? ⟨gb281, 5, none⟩ = some (.slice A0_5 l0_5.length c0_5) := (blk_cell BK281.out 5).trans rfl
          have hfz9_0 := blk_frozen BK281.out 0
          have hfz9_1 := blk_frozen BK281.out 1
          have hfz9_2 := blk_frozen BK281.out 2
          have hfz9_3 := blk_frozen BK281.out 3
          have hfz9_4 := blk_frozen BK281.out 4
          have hfz9_5 := blk_frozen BK281.out 5
          go_wp2
          repeat (go_quiet (fail); try go_wp2)
          go_ret2
          exact ⟨by first | rfl | (simp [errW_none, errW_some] <;> rfl) | (simp [*, errW_none, errW_some] <;> rfl), by repeat (first | (with_reducible first | exact HB.out | apply below_alloc | apply pw_below_drewN | apply below_drew1 | refine below_set ?_ GE281.out) | exact HB.out)⟩


/-! ### spec_Text: function 19 -/
def spec_Text.f (a0 : ByteArray) : Option (Int × Int × Nat × ByteArray × List ByteArray × (List (S26))) := some (5, 0, 0, a0, ([] : List ByteArray), ([] : List (S26)))
set_option maxHeartbeats 8000000 in
set_option maxRecDepth 100000 in
theorem spec_Text.calls (a0 : ByteArray) (r1 : Int) (r2 : Int) (r3 : Nat) (r4 : ByteArray) (r5 : List ByteArray) (r6 : List (S26)) (w : World) (h : spec_Text.f a0 = some (r1, r2, r3, r4, r5, r6)) :
    Calls Try.prog 19 #[.string a0] w fun e w' => ∃ v4_ v5_ : Value, e = .returned (.agg #[.int .i64 r1, .int .i64 r2, .float .f64 r3, .string r4, v4_, v5_]) ∧ Kd.R Kd.string 9 w' w.heap.size (fun _ => True) v4_ r5 ∧ Kd.R k26 26 w' w.heap.size (fun k_ => some k_ ≠ (v4_ : Value).ownBlock) v5_ r6 ∧ Below w.heap.size w w' := by
  have hu26 := Try.underlying26
  have HB := Aside0.mk (Below.refl w.heap.size w)
  have H : (some (5, 0, 0, a0, ([] : List ByteArray), ([] : List (S26)))) = some (r1, r2, r3, r4, r5, r6) := h
  clear h
  as_aux_lemma =>
    simp only [Option.some.injEq, Prod.mk.injEq] at H
    obtain ⟨rfl, rfl, rfl, rfl, rfl, rfl⟩ := H
    go_enter Try.func19, Try.ntmps19
    go_wp2_with (first | ((with_reducible refine gate_dst (N := 2) rfl ?_); refine box_event ?hg (N := 2) ?hd (cs := #[.int .i64 0, .int .i64 0, .float .f64 0, .string (⟨#[]⟩ : ByteArray), .slice none 0 0, .slice none 0 0]) (t := 26) ?hr ?_; (case hd => rfl); (case hg => rfl); (case hr => first | (go_simp; done) | (go_simp; rfl)); intro gb284 hg w2 hbox hb; have n0_ := Aside0.mk (below_step (by repeat (first | (with_reducible first | exact HB.out | apply below_alloc | apply pw_below_drewN | apply below_drew1) | exact HB.out)) hb); have n1_ := Aside0.mk (hbox); have n2_ := Aside0.mk ((by rw [hg]; exact (below_size (by repeat (first | (with_reducible first | exact HB.out | apply below_alloc | apply pw_below_drewN | apply below_drew1) | exact HB.out))) : w.heap.size ≤ gb284)); have n3_ := Aside0.mk ((by rw [hg]; exact (below_size (by repeat (first | (with_reducible first | exact HB.out | apply below_alloc | apply pw_below_drewN | apply below_drew1) | exact HB.out))) : w.heap.size ≤ gb284)); clear HB; have HB := n0_; have BK284 := n1_; have GW284 := n2_; have GE284 := n3_; clear n0_ n1_ n2_ n3_; clear hb hbox hg; have hcz3_0 : w2.cell? ⟨gb284, 0, none⟩ = some (.int .i64 0) := (blk_cell BK284.out 0).trans rfl; have hcz3_1 : w2.cell? ⟨gb284, 1, none⟩ = some (.int .i64 0) := (blk_cell BK284.out 1).trans rfl; have hcz3_2 : w2.cell? ⟨gb284, 2, none⟩ = some (.float .f64 0) := (blk_cell BK284.out 2).trans rfl; have hcz3_3 : w2.cell? ⟨gb284, 3, none⟩ = some (.string (⟨#[]⟩ : ByteArray)) := (blk_cell BK284.out 3).trans rfl; have hcz3_4 : w2.cell? ⟨gb284, 4, none⟩ = some (.slice none 0 0) := (blk_cell BK284.out 4).trans rfl; have hcz3_5 : w2.cell? ⟨gb284, 5, none⟩ = some (.slice none 0 0) := (blk_cell BK284.out 5).trans rfl; have hfz3_0 := blk_frozen BK284.out 0; have hfz3_1 := blk_frozen BK284.out 1; have hfz3_2 := blk_frozen BK284.out 2; have hfz3_3 := blk_frozen BK284.out 3; have hfz3_4 := blk_frozen BK284.out 4; have hfz3_5 := blk_frozen BK284.out 5))
    refine bodyPost_ret (results_cell_row rfl _ _ gb284 26 #[.int .i64 5, .int .i64 0, .float .f64 0, .string a0, .slice none 0 0, .slice none 0 0] (0, 0) _ rfl (by (with_reducible repeat (first | refine blk_drewN ?_ _ | refine blk_drew ?_ | refine blk_alloc ?_ _)); refine blk_put (cs := #[.int .i64 5, .int .i64 0, .float .f64 0, .string a0, .slice none 0 0, .slice none 0 0]) ?_ 5 _ rfl; (with_reducible repeat (first | refine blk_drewN ?_ _ | refine blk_drew ?_ | refine blk_alloc ?_ _)); refine blk_put (cs := #[.int .i64 5, .int .i64 0, .float .f64 0, .string a0, .slice none 0 0, .slice none 0 0]) ?_ 4 _ rfl; (with_reducible repeat (first | refine blk_drewN ?_ _ | refine blk_drew ?_ | refine blk_alloc ?_ _)); refine blk_put (cs := #[.int .i64 5, .int .i64 0, .float .f64 0, .string (⟨#[]⟩ : ByteArray), .slice none 0 0, .slice none 0 0]) ?_ 3 _ rfl; (with_reducible repeat (first | refine blk_drewN ?_ _ | refine blk_drew ?_ | refine blk_alloc ?_ _)); refine blk_put (cs := #[.int .i64 5, .int .i64 0, .float .f64 0, .string (⟨#[]⟩ : ByteArray), .slice none 0 0, .slice none 0 0]) ?_ 2 _ rfl; (with_reducible repeat (first | refine blk_drewN ?_ _ | refine blk_drew ?_ | refine blk_alloc ?_ _)); refine blk_put (cs := #[.int .i64 5, .int .i64 0, .float .f64 0, .string (⟨#[]⟩ : ByteArray), .slice none 0 0, .slice none 0 0]) ?_ 1 _ rfl; (with_reducible repeat (first | refine blk_drewN ?_ _ | refine blk_drew ?_ | refine blk_alloc ?_ _)); refine blk_put (cs := #[.int .i64 0, .int .i64 0, .float .f64 0, .string (⟨#[]⟩ : ByteArray), .slice none 0 0, .slice none 0 0]) ?_ 0 _ rfl; (with_reducible repeat (first | refine blk_drewN ?_ _ | refine blk_drew ?_ | refine blk_alloc ?_ _)); exact BK284.out) Try.underlying26 rfl (by kernel_rfl)) rfl ?_
    exact ⟨_, _, by first | rfl | (simp [errW_none, errW_some] <;> rfl) | (simp [*, errW_none, errW_some] <;> rfl), by first | exact Kd.R_nil _ _ _ _ _ | exact Kd.N_nil _ _ _ _ _ | exact Kd.V_nil _ _ _ _ _ | exact Kd.Q_nil _ _ _ _ _ | exact Kd.S_nil _ _ _ _ _, by first | exact Kd.R_nil _ _ _ _ _ | exact Kd.N_nil _ _ _ _ _ | exact Kd.V_nil _ _ _ _ _ | exact Kd.Q_nil _ _ _ _ _ | exact Kd.S_nil _ _ _ _ _, by repeat (first | (with_reducible first | exact HB.out | apply below_alloc | apply pw_below_drewN | apply below_drew1 | refine below_set ?_ GE284.out) | exact HB.out)⟩

end Go.Proofs.Ytlefdkemgfjieaa.P
