-- WRITTEN by xprint.py (a program of this session, over the kit's print) out of the translation. Not trusted: Lean checks it.
import Derived.Test.YtbcccmoddbmffaaDoorPx0
import Derived.Test.YtbcccmoddbmffaaDoorPx3
import Derived.Test.YtbcccmoddbmffaaDoorPx13
namespace Go.Proofs.YtbcccmoddbmffaaDoor.P
open Go.RowKit Go.Proofs.YtbcccmoddbmffaaDoorW.PrintWords Go.Proofs.YtbcccmoddbmffaaDoorW.PrintLast Go.Proofs.YtbcccmoddbmffaaDoorW.PrintMore
attribute [local go_sem] max2_int min2_int max_two min_two max_three min_three max_four min_four   -- for this text's walks alone
set_option linter.unusedVariables false
set_option linter.unusedSimpArgs false

/-! ### impl_SqueezeOf: function 33 -/
def impl_SqueezeOf.f (a0 : ByteArray) (a1 : ByteArray) : Option (ByteArray) := (xstrings_Squeeze.f a0 a1).bind fun t114 => (some t114)
set_option maxHeartbeats 8000000 in
set_option maxRecDepth 100000 in
theorem impl_SqueezeOf.calls (a0 : ByteArray) (a1 : ByteArray) (r : ByteArray) (w : World) (h : impl_SqueezeOf.f a0 a1 = some r) (HT0U : TabsU w) :
    Calls Tryd.prog 33 #[.string a0, .string a1] w fun e w' => e = .returned (.string r) ∧ Below w.heap.size w w' := by
  have HTU := Aside0.mk HT0U
  clear HT0U
  have HB := Aside0.mk (Below.refl w.heap.size w)
  have H : ((xstrings_Squeeze.f a0 a1).bind fun t114 => (some t114)) = some r := h
  clear h
  replace H := Option.bind_eq_some_iff.mp H
  obtain ⟨t114, A30, H⟩ := H
  replace H : (some t114) = some r := H
  have A3 := Aside0.mk A30
  clear A30
  obtain rfl := Option.some.inj H
  go_enter Tryd.func33, Tryd.ntmps33
  go_wp2_with (first | ((with_reducible refine gate_callee (f := 61) rfl ?_); refine goesL_ (some 7) rfl rfl Tryd.func61 (by kernel_rfl) rfl #[.string a0, .string a1] rfl (by (try simp only [List.map_toArray, List.map_cons, List.map_nil]); first | done | rfl | (simp only [List.length_drop, List.length_take]; rfl)) ?_; (with_reducible refine (xstrings_Squeeze.calls a0 a1 t114 _ A3.out (TabsU.below HTU.out (by repeat (first | (with_reducible first | exact HB.out | apply below_alloc | apply pw_below_drewN | apply below_drew1) | exact HB.out)))).mono ?_); rintro e w4 ⟨rfl, hb⟩; refine ⟨_, rfl, ?_⟩; have n0_ := Aside0.mk (below_step (by repeat (first | (with_reducible first | exact HB.out | apply below_alloc | apply pw_below_drewN | apply below_drew1) | exact HB.out)) hb); clear HB; have HB := n0_; clear n0_; (try clear hb); (try clear hb2); (try clear hk); (try clear hi)))
  go_ret
  exact ⟨by first | rfl | (simp [errW_none, errW_some] <;> rfl) | (simp [*, errW_none, errW_some] <;> rfl), by repeat (first | (with_reducible first | exact HB.out | apply below_alloc | apply pw_below_drewN | apply below_drew1) | exact HB.out)⟩

/-! ### spec_Pattern_at: function 80 -/
def spec_Pattern_at.l0 : Nat → Int → Int → Int → Bool → List Int → Option (Int)
  | 0, _, _, _, _, _ => none
  | k + 1, x1, x8, x9, x116000, x116001 => if x9 < x8 then (if 0 ≤ x9 then (if x9 < (x116001.length : Int) then (if (rd x116001 x9) = x1 then (some x9) else (spec_Pattern_at.l0 k x1 x8 (wrap64 (x9 + 1)) x116000 x116001)) else (none)) else (none)) else (some (-1))
def spec_Pattern_at.f (k : Nat) (a0_0 : Bool) (l0_1 : List Int) (a1 : Int) : Option (Int) := spec_Pattern_at.l0 k a1 (l0_1.length : Int) 0 a0_0 l0_1
theorem spec_Pattern_at.mono_l : ∀ k, (∀ y0 y1 y2 y3 y4, LeO (spec_Pattern_at.l0 k y0 y1 y2 y3 y4) (spec_Pattern_at.l0 (k + 1) y0 y1 y2 y3 y4))
  | 0 => fun _ _ _ _ _ r h => by simp [spec_Pattern_at.l0] at h
  | k + 1 => by
    have ih0 := spec_Pattern_at.mono_l k
    · intro y0 y1 y2 y3 y4
      unfold spec_Pattern_at.l0
      repeat' first
      | (with_reducible exact ih0 _ _ _ _ _)
      | (with_reducible exact LeO.refl _)
      | (with_reducible exact LeO.none _)
      | (with_reducible refine LeO.ite ?_ ?_)
      | (with_reducible refine LeO.bind ?_ (fun _ => ?_))
      | exact ih0 _ _ _ _ _
      | exact LeO.none _
      | refine LeO.ite ?_ ?_
      | refine LeO.bind ?_ (fun _ => ?_)
theorem spec_Pattern_at.mono : ∀ a0 a1 a2 k, LeO (spec_Pattern_at.f k a0 a1 a2) (spec_Pattern_at.f (k + 1) a0 a1 a2) := by
  intro a0 a1 a2 k
  have ih0 := spec_Pattern_at.mono_l k
  unfold spec_Pattern_at.f
  repeat' first
      | (with_reducible exact ih0 _ _ _ _ _)
      | (with_reducible exact LeO.refl _)
      | (with_reducible exact LeO.none _)
      | (with_reducible refine LeO.ite ?_ ?_)
      | (with_reducible refine LeO.bind ?_ (fun _ => ?_))
      | exact ih0 _ _ _ _ _
      | exact LeO.none _
      | refine LeO.ite ?_ ?_
      | refine LeO.bind ?_ (fun _ => ?_)
set_option maxHeartbeats 8000000 in
set_option maxRecDepth 100000 in
theorem spec_Pattern_at.calls (k : Nat) (a0_0 : Bool) (A0_1 : Option Addr) (c0_1 : Nat) (l0_1 : List Int) (a1 : Int) (r : Int) (w : World) (hr0_1 : Kd.C (Kd.int .i32) w A0_1 l0_1.length l0_1) (hc0_1 : l0_1.length ≤ c0_1) (h : spec_Pattern_at.f k a0_0 l0_1 a1 = some r) :
    Calls Tryd.prog 80 #[.agg #[.bool a0_0, .slice A0_1 l0_1.length c0_1], .int .i32 a1] w fun e w' => e = .returned (.int .i64 r) ∧ Below w.heap.size w w' := by
  have hu43 := Tryd.underlying43
  have HR0_1 := Aside0.mk hr0_1
  have HC0_1 := Aside0.mk hc0_1
  clear hr0_1 hc0_1
  have HB := Aside0.mk (Below.refl w.heap.size w)
  have H : (spec_Pattern_at.l0 k a1 (l0_1.length : Int) 0 a0_0 l0_1) = some r := h
  clear h
  have H' := Aside0.mk H
  clear H
  go_enter Tryd.func80, Tryd.ntmps80
  go_wp2_with (first | ((with_reducible refine gate_dst (N := 2) rfl ?_); refine box_event ?hg (N := 2) ?hd (cs := #[.bool a0_0, .slice A0_1 l0_1.length c0_1]) (t := 43) ?hr ?_; (case hd => rfl); (case hg => rfl); (case hr => first | (go_simp; done) | (go_simp; rfl)); intro gb115 hg w3 hbox hb; have n0_ := Aside0.mk (below_step (by repeat (first | (with_reducible first | exact HB.out | apply below_alloc | apply pw_below_drewN | apply below_drew1) | exact HB.out)) hb); have n1_ := Aside0.mk (hbox); have n2_ := Aside0.mk ((by rw [hg]; exact (below_size (by repeat (first | (with_reducible first | exact HB.out | apply below_alloc | apply pw_below_drewN | apply below_drew1) | exact HB.out))) : w.heap.size ≤ gb115)); have n3_ := Aside0.mk ((by rw [hg]; exact (below_size (by repeat (first | (with_reducible first | exact HB.out | apply below_alloc | apply pw_below_drewN | apply below_drew1) | exact HB.out))) : w.heap.size ≤ gb115)); clear HB; have HB := n0_; have BK115 := n1_; have GW115 := n2_; have GE115 := n3_; clear n0_ n1_ n2_ n3_; clear hb hbox hg; have hcz4_0 : w3.cell? ⟨gb115, 0, none⟩ = some (.bool a0_0) := (blk_cell BK115.out 0).trans rfl; have hcz4_1 : w3.cell? ⟨gb115, 1, none⟩ = some (.slice A0_1 l0_1.length c0_1) := (blk_cell BK115.out 1).trans rfl; have hfz4_0 := blk_frozen BK115.out 0; have hfz4_1 := blk_frozen BK115.out 1))
  go_loopg [9] k (fun kq v9 w' => ∃ (x9_1 : Int), v9 = .int .i64 x9_1 ∧ Aside0 (spec_Pattern_at.l0 kq a1 (l0_1.length : Int) x9_1 a0_0 l0_1 = some r) ∧ Aside0 (kq ≤ k) ∧ Aside0 (w'.heap[gb115]? = some (.cells #[.bool a0_0, (.slice A0_1 l0_1.length c0_1)] 43 (0, 0))) ∧ Aside0 (Below w.heap.size w w'))
  case atStart => exact ⟨(0), (by first | rfl | (simp; done) | (simp [*]; done)), H', ⟨Nat.le_refl _⟩, ⟨by (with_reducible repeat (first | refine blk_drewN ?_ _ | refine blk_drew ?_ | refine blk_alloc ?_ _)); exact BK115.out⟩, ⟨by repeat (first | (with_reducible first | exact HB.out | apply below_alloc | apply pw_below_drewN | apply below_drew1 | refine below_set ?_ GE115.out) | exact HB.out)⟩⟩
  case round =>
    clear H'
    try clear p2
    try clear hcz4_0
    try clear hcz4_1
    try clear hfz4_0
    try clear hfz4_1
    obtain ⟨x9_1, rfl, HA, HK1, BK115, HB⟩ := hrel
    cases gk with
    | zero => exact absurd HA.out (by simp [spec_Pattern_at.l0])
    | succ k1 =>
      have H := HA.out
      clear HA
      simp only [spec_Pattern_at.l0] at H
      by_cases c5 : x9_1 < (l0_1.length : Int)
      · rw [if_pos c5] at H
        have c5b0 : decide (x9_1 < (l0_1.length : Int)) = true := decide_eq_true c5
        clear c5
        by_cases c6 : 0 ≤ x9_1
        · rw [if_pos c6] at H
          have c6b0 : decide (0 ≤ x9_1) = true := decide_eq_true c6
          clear c6
          by_cases c7 : x9_1 < (l0_1.length : Int)
          · rw [if_pos c7] at H
            have c7b0 : decide (x9_1 < (l0_1.length : Int)) = true := decide_eq_true c7
            clear c7
            by_cases c8 : (rd l0_1 x9_1) = a1
            · rw [if_pos c8] at H
              have c8b0 : ((rd l0_1 x9_1) == a1) = true := beq_iff_eq.mpr c8
              have c8b1 : ((rd l0_1 x9_1) != a1) = false := bne_eq_false_iff_eq.mpr c8
              clear c8
              obtain rfl := Option.some.inj H
              have hcz9_0 : wr.cell? ⟨gb115, 0, none⟩ = some (.bool a0_0) := (blk_cell BK115.out 0).trans rfl
              have hcz9_1 : wr.cell? ⟨gb115, 1, none⟩ = some (.slice A0_1 l0_1.length c0_1) := (blk_cell BK115.out 1).trans rfl
              have hfz9_0 := blk_frozen BK115.out 0
              have hfz9_1 := blk_frozen BK115.out 1
              have p116 : 0 ≤ (x9_1 : Int) := of_decide_eq_true (by first | (with_reducible assumption) | assumption)
              have q116 : x9_1 < (l0_1.length : Int) := of_decide_eq_true (by first | (with_reducible assumption) | assumption)
              obtain ⟨ad116, e116, hx116_0⟩ := Kd.at_int HR0_1.out x9_1 p116 q116
              cases e116
              replace hx116_0 := (HB.out.cell (World.block_lt_of_cell? w _ hx116_0)).trans hx116_0
              replace p116 := eq_true p116
              replace q116 := eq_true q116
              go_wp2
              go_ret
              exact ⟨by first | rfl | (simp [errW_none, errW_some] <;> rfl) | (simp [*, errW_none, errW_some] <;> rfl), by repeat (first | (with_reducible first | exact HB.out | apply below_alloc | apply pw_below_drewN | apply below_drew1 | refine below_set ?_ GE115.out) | exact HB.out)⟩
            · rw [if_neg c8] at H
              have c8b0 : ((rd l0_1 x9_1) == a1) = false := beq_eq_false_iff_ne.mpr c8
              have c8b1 : ((rd l0_1 x9_1) != a1) = true := bne_iff_ne.mpr c8
              have H' := Aside0.mk H
              clear H
              have hcz10_0 : wr.cell? ⟨gb115, 0, none⟩ = some (.bool a0_0) := (blk_cell BK115.out 0).trans rfl
              have hcz10_1 : wr.cell? ⟨gb115, 1, none⟩ = some (.slice A0_1 l0_1.length c0_1) := (blk_cell BK115.out 1).trans rfl
              have hfz10_0 := blk_frozen BK115.out 0
              have hfz10_1 := blk_frozen BK115.out 1
              have p116 : 0 ≤ (x9_1 : Int) := of_decide_eq_true (by first | (with_reducible assumption) | assumption)
              have q116 : x9_1 < (l0_1.length : Int) := of_decide_eq_true (by first | (with_reducible assumption) | assumption)
              obtain ⟨ad116, e116, hx116_0⟩ := Kd.at_int HR0_1.out x9_1 p116 q116
              cases e116
              replace hx116_0 := (HB.out.cell (World.block_lt_of_cell? w _ hx116_0)).trans hx116_0
              replace p116 := eq_true p116
              replace q116 := eq_true q116
              go_wp2
              go_roundg k1
              case measure => have := HK1.out; omega
              case rel => exact ⟨(wrap64 (x9_1 + 1)), (by first | rfl | (simp; done) | (simp [*]; done)), H', ⟨by have := HK1.out; omega⟩, ⟨by (with_reducible repeat (first | refine blk_drewN ?_ _ | refine blk_drew ?_ | refine blk_alloc ?_ _)); exact BK115.out⟩, ⟨by repeat (first | (with_reducible first | exact HB.out | apply below_alloc | apply pw_below_drewN | apply below_drew1 | refine below_set ?_ GE115.out) | exact HB.out)⟩⟩
          · rw [if_neg c7] at H
            exact absurd H (by simp)
        · rw [if_neg c6] at H
          exact absurd H (by simp)
      · rw [if_neg c5] at H
        have c5b0 : decide (x9_1 < (l0_1.length : Int)) = false := decide_eq_false c5
        clear c5
        obtain rfl := Option.some.inj H
        go_wp2
        go_ret
        exact ⟨by first | rfl | (simp [errW_none, errW_some] <;> rfl) | (simp [*, errW_none, errW_some] <;> rfl), by repeat (first | (with_reducible first | exact HB.out | apply below_alloc | apply pw_below_drewN | apply below_drew1 | refine below_set ?_ GE115.out) | exact HB.out)⟩

/-! ### spec_Pattern_Matches: function 62 -/
def spec_Pattern_Matches.f (k : Nat) (a0_0 : Bool) (l0_1 : List Int) (a1 : Int) : Option (Bool) := (spec_Pattern_at.f k a0_0 l0_1 a1).bind fun t118 => (some ((decide (t118 ≥ 0)) != a0_0))
theorem spec_Pattern_Matches.mono : ∀ a0 a1 a2 k, LeO (spec_Pattern_Matches.f k a0 a1 a2) (spec_Pattern_Matches.f (k + 1) a0 a1 a2) := by
  intro a0 a1 a2 k
  unfold spec_Pattern_Matches.f
  repeat' first
      | (with_reducible exact spec_Pattern_at.mono _ _ _ _)
      | (with_reducible exact LeO.refl _)
      | (with_reducible exact LeO.none _)
      | (with_reducible refine LeO.ite ?_ ?_)
      | (with_reducible refine LeO.bind ?_ (fun _ => ?_))
      | exact spec_Pattern_at.mono _ _ _ _
      | exact LeO.none _
      | refine LeO.ite ?_ ?_
      | refine LeO.bind ?_ (fun _ => ?_)
def spec_Pattern_Matches.T1 : Bool × List (List Nat × List Nat) := (true, [([], []), ([], []), ([0, 1], [0, 1]), ([2], [2]), ([], []), ([4], [4]), ([3, 5], [3, 5]), ([6, 2, 0, 1, 2, 3, 4, 5, 6], [6])])
def spec_Pattern_Matches.B1 : List Nat := [0, 0, 3, 7, 0, 16, 63, 127]
theorem spec_Pattern_Matches.tab1 : rtab .any (opsOf Tryd.f62 1) = spec_Pattern_Matches.T1 := by kernel_rfl
theorem spec_Pattern_Matches.bits1 : waitsOk spec_Pattern_Matches.T1.2 spec_Pattern_Matches.B1 = true := by kernel_rfl
set_option maxHeartbeats 8000000 in
set_option maxRecDepth 100000 in
theorem spec_Pattern_Matches.calls (k : Nat) (a0_0 : Bool) (A0_1 : Option Addr) (c0_1 : Nat) (l0_1 : List Int) (a1 : Int) (r : Bool) (w : World) (hr0_1 : Kd.C (Kd.int .i32) w A0_1 l0_1.length l0_1) (hc0_1 : l0_1.length ≤ c0_1) (h : spec_Pattern_Matches.f k a0_0 l0_1 a1 = some r) :
    Calls Tryd.prog 62 #[.agg #[.bool a0_0, .slice A0_1 l0_1.length c0_1], .int .i32 a1] w fun e w' => e = .returned (.bool r) ∧ Below w.heap.size w w' := by
  have hu43 := Tryd.underlying43
  have HR0_1 := Aside0.mk hr0_1
  have HC0_1 := Aside0.mk hc0_1
  clear hr0_1 hc0_1
  have HB := Aside0.mk (Below.refl w.heap.size w)
  have H : ((spec_Pattern_at.f k a0_0 l0_1 a1).bind fun t118 => (some ((decide (t118 ≥ 0)) != a0_0))) = some r := h
  clear h
  replace H := Option.bind_eq_some_iff.mp H
  obtain ⟨t118, A30, H⟩ := H
  replace H : (some ((decide (t118 ≥ 0)) != a0_0)) = some r := H
  have A3 := Aside0.mk A30
  clear A30
  obtain rfl := Option.some.inj H
  go_enter Tryd.func62, Tryd.ntmps62
  try go_wp2_with (first | ((with_reducible refine gate_dst (N := 2) rfl ?_); refine box_event ?hg (N := 2) ?hd (cs := #[.bool a0_0, .slice A0_1 l0_1.length c0_1]) (t := 43) ?hr ?_; (case hd => rfl); (case hg => rfl); (case hr => first | (go_simp; done) | (go_simp; rfl)); intro gb117 hg w4 hbox hb; have n0_ := Aside0.mk (below_step (by repeat (first | (with_reducible first | exact HB.out | apply below_alloc | apply pw_below_drewN | apply below_drew1) | exact HB.out)) hb); have n1_ := Aside0.mk (hbox); have n2_ := Aside0.mk ((by rw [hg]; exact (below_size (by repeat (first | (with_reducible first | exact HB.out | apply below_alloc | apply pw_below_drewN | apply below_drew1) | exact HB.out))) : w.heap.size ≤ gb117)); have n3_ := Aside0.mk ((by rw [hg]; exact (below_size (by repeat (first | (with_reducible first | exact HB.out | apply below_alloc | apply pw_below_drewN | apply below_drew1) | exact HB.out))) : w.heap.size ≤ gb117)); clear HB; have HB := n0_; have BK117 := n1_; have GW117 := n2_; have GE117 := n3_; clear n0_ n1_ n2_ n3_; clear hb hbox hg))
  have n0_ := Aside0.mk (blk_drew BK117.out)
  have n1_ := Aside0.mk (below_drew1 HB.out)
  clear BK117
  clear HB
  have BK117 := n0_
  have HB := n1_
  clear n0_ n1_
  refine start_ (n := 8) (S := fun w' => w'.cell? ⟨gb117, 0, none⟩ = some (.bool a0_0) ∧ w'.cell? ⟨gb117, 1, none⟩ = some (.slice A0_1 l0_1.length c0_1)) (ds := []) #[false, false, false, false, false, false, false, false] (by kernel_rfl) rfl rfl ⟨(blk_cell BK117.out 0).trans rfl, (blk_cell BK117.out 1).trans rfl⟩ (fun hHeld => ?_); refine with_tabW spec_Pattern_Matches.tab1 spec_Pattern_Matches.bits1 (fun HT_ HW_ => ?_)
  generalize w4.drew = w5 at BK117 HB hHeld ⊢
  refine pure_ (i := 1) (N := some 6) (v := ?_) (a' := ?_) #[false, true, false, false, false, false, false, false] rfl rfl (any_of HT_.out (by kernel_rfl)) (fun _ _ _ h => h) (Or.inl ⟨by rfl, ?_⟩) ?_ ?_
  rotate_left
  · intro w'
    go_simp
    with_reducible rfl
  rotate_left
  · simp only [Act.put, List.setIfInBounds_toArray, List.set_cons_zero, List.set_cons_succ, i64_w, i32_w]
    rfl
  refine pure_ (i := 4) (N := some 9) (v := ?_) (a' := ?_) #[false, true, false, false, true, false, false, false] rfl rfl (any_of HT_.out (by kernel_rfl)) (fun _ _ _ h => h) (Or.inl ⟨by rfl, ?_⟩) ?_ ?_
  rotate_left
  · intro w'
    go_simp
    with_reducible rfl
  rotate_left
  · simp only [Act.put, List.setIfInBounds_toArray, List.set_cons_zero, List.set_cons_succ, i64_w, i32_w]
    rfl
  refine take_ (i := 0) (N := some 5) (v := ?_) (a' := ?_) #[true, true, false, false, true, false, false, false] rfl rfl (take_ofW HT_.out HW_.out (by kernel_rfl)) (fun _ _ _ h => h) (Or.inl ⟨by rfl, ?_⟩) hHeld ?_ ?_
  rotate_left
  · rintro w' ⟨s0, s1⟩
    go_simp
    with_reducible rfl
  rotate_left
  · simp only [Act.put, List.setIfInBounds_toArray, List.set_cons_zero, List.set_cons_succ, i64_w, i32_w]
    rfl
  refine take_ (i := 5) (N := some 10) (v := ?_) (a' := ?_) #[true, true, false, false, true, true, false, false] rfl rfl (take_ofW HT_.out HW_.out (by kernel_rfl)) (fun _ _ _ h => h) (Or.inl ⟨by rfl, ?_⟩) hHeld ?_ ?_
  rotate_left
  · rintro w' ⟨s0, s1⟩
    go_simp
    with_reducible rfl
  rotate_left
  · simp only [Act.put, List.setIfInBounds_toArray, List.set_cons_zero, List.set_cons_succ, i64_w, i32_w]
    rfl
  refine one_ (i := 2) (N := some 7) #[true, true, true, false, true, true, false, false] rfl rfl (one_of HT_.out (by kernel_rfl)) (by decide) (fun K hK => ?_)
  refine goes_ Tryd.func80 (by kernel_rfl) rfl #[.agg #[.bool a0_0, .slice A0_1 l0_1.length c0_1], .int .i32 a1] (by rfl) rfl rfl (by (try simp only [List.map_toArray, List.map_cons, List.map_nil]); first | done | rfl | (simp only [List.length_drop, List.length_take]; rfl)) ?_
  with_reducible refine (spec_Pattern_at.calls k a0_0 _ _ l0_1 a1 t118 _ ?side1 ?side2 A3.out).mono ?_
  (case side1 => repeat (first | exact (Kd.C_below HR0_1.out HB.out) | (with_reducible refine Kd.C_alloc ?_ _) | (with_reducible refine Kd.C_drewN ?_ _) | (with_reducible refine Kd.C_drew ?_)))
  (case side2 => exact HC0_1.out)
  rintro e w6 ⟨rfl, hb⟩
  refine ⟨_, rfl, ?_⟩
  have n0_ := Aside0.mk (blk_below (g := gb117) (o := .cells #[.bool a0_0, .slice A0_1 l0_1.length c0_1] 43 (0, 0)) (by (with_reducible repeat (first | refine blk_drewN ?_ _ | refine blk_drew ?_ | refine blk_alloc ?_ _)); exact BK117.out) hb)
  have n1_ := Aside0.mk (below_step (by repeat (first | (with_reducible first | exact HB.out | apply below_alloc | apply pw_below_drewN | apply below_drew1 | refine below_set ?_ GE117.out) | exact HB.out)) hb)
  clear BK117
  clear HB
  have BK117 := n0_
  have HB := n1_
  clear n0_ n1_
  (try clear hb)
  (try clear hb2)
  (try clear hk)
  (try clear hi)
  refine hK.out _ _ ⟨(blk_cell BK117.out 0).trans rfl, (blk_cell BK117.out 1).trans rfl⟩ (fun hHeld => ?_)
  clear hK K
  refine norm_ (a' := ?_) ?_ ?_
  rotate_left
  · show Act.put _ (some 7) _ = _
    simp only [Act.put, List.setIfInBounds_toArray, List.set_cons_zero, List.set_cons_succ, i64_w, i32_w]
    rfl
  refine pure_ (i := 3) (N := some 8) (v := ?_) (a' := ?_) #[true, true, true, true, true, true, false, false] rfl rfl (any_of HT_.out (by kernel_rfl)) (fun _ _ _ h => h) (Or.inl ⟨by rfl, ?_⟩) ?_ ?_
  rotate_left
  · intro w'
    go_simp
    with_reducible rfl
  rotate_left
  · simp only [Act.put, List.setIfInBounds_toArray, List.set_cons_zero, List.set_cons_succ, i64_w, i32_w]
    rfl
  refine pure_ (i := 6) (N := some 11) (v := ?_) (a' := ?_) #[true, true, true, true, true, true, true, false] rfl rfl (any_of HT_.out (by kernel_rfl)) (fun _ _ _ h => h) (Or.inl ⟨by rfl, ?_⟩) ?_ ?_
  rotate_left
  · intro w'
    go_simp
    with_reducible rfl
  rotate_left
  · simp only [Act.put, List.setIfInBounds_toArray, List.set_cons_zero, List.set_cons_succ, i64_w, i32_w]
    rfl
  refine pure_ (i := 7) (N := some 4) (v := ?_) (a' := ?_) #[true, true, true, true, true, true, true, true] rfl rfl (any_of HT_.out (by kernel_rfl)) (fun _ _ _ h => h) (Or.inl ⟨by rfl, ?_⟩) ?_ ?_
  rotate_left
  · intro w'
    go_simp
    with_reducible rfl
  rotate_left
  · simp only [Act.put, List.setIfInBounds_toArray, List.set_cons_zero, List.set_cons_succ, i64_w, i32_w]
    rfl
  refine done_ (done_of HT_.out (by kernel_rfl)) ?_
  try go_wp2
  go_ret
  exact ⟨by first | rfl | (simp [errW_none, errW_some] <;> rfl) | (simp [*, errW_none, errW_some] <;> rfl), by repeat (first | (with_reducible first | exact HB.out | apply below_alloc | apply pw_below_drewN | apply below_drew1 | refine below_set ?_ GE117.out) | exact HB.out)⟩

end Go.Proofs.YtbcccmoddbmffaaDoor.P
