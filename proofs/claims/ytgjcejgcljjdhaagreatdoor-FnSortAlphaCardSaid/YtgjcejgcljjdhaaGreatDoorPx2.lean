-- WRITTEN by xprint.py (a program of this session, over the kit's print) out of the translation. Not trusted: Lean checks it.
import Derived.Test.YtgjcejgcljjdhaaGreatDoorPx0
import Derived.Test.YtgjcejgcljjdhaaGreatDoorPx1
namespace Go.Proofs.YtgjcejgcljjdhaaGreatDoor.P
open Go.RowKit Go.Proofs.YtgjcejgcljjdhaaGreatDoorW.PrintWords Go.Proofs.YtgjcejgcljjdhaaGreatDoorW.PrintLast Go.Proofs.YtgjcejgcljjdhaaGreatDoorW.PrintMore
attribute [local go_sem] max2_int min2_int max_two min_two max_three min_three max_four min_four run_store_float   -- for this text's walks alone
set_option linter.unusedVariables false
set_option linter.unusedSimpArgs false

/-! ### spec_Points: function 32 -/
def spec_Points.f (a0 : ByteArray) : Option (List Int × Bool) := if a0.size ≤ 70368744177664 then ((some (runesOf a0 : List Int)).bind fun y101 => (if (runesBytes y101).toList = a0.toList then ((spec_replaced.f a0).bind fun t104 => (some (y101, !t104))) else (some (y101, false)))) else (none)
set_option maxHeartbeats 8000000 in
set_option maxRecDepth 100000 in
theorem spec_Points.calls (a0 : ByteArray) (r1 : List Int) (r2 : Bool) (w : World) (h : spec_Points.f a0 = some (r1, r2)) :
    Calls Tryz.prog 32 #[.string a0] w fun e w' => ∃ v0_ : Value, e = .returned (.tuple #[v0_, .bool r2]) ∧ Kd.R (Kd.int .i32) 21 w' w.heap.size (fun _ => True) v0_ r1 ∧ Below w.heap.size w w' := by
  have HB := Aside0.mk (Below.refl w.heap.size w)
  have H : (if a0.size ≤ 70368744177664 then ((some (runesOf a0 : List Int)).bind fun y101 => (if (runesBytes y101).toList = a0.toList then ((spec_replaced.f a0).bind fun t104 => (some (y101, !t104))) else (some (y101, false)))) else (none)) = some (r1, r2) := h
  clear h
  by_cases c2 : a0.size ≤ 70368744177664
  · rw [if_pos c2] at H
    have c2b0 := eq_true c2
    have c2b1 : decide (a0.size ≤ 70368744177664) = true := decide_eq_true c2
    clear c2
    obtain ⟨y101, hy101⟩ : ∃ y_ : List Int, y_ = (runesOf a0) := ⟨_, rfl⟩
    replace H : (if (runesBytes y101).toList = a0.toList then ((spec_replaced.f a0).bind fun t104 => (some (y101, !t104))) else (some (y101, false))) = some (r1, r2) := by first | (rw [hy101]; with_reducible exact H) | (have H2_ := (Option.bind_some _ _).symm.trans H; rw [hy101]; with_reducible exact H2_) | (have H2_ := (Option.bind_some _ _).symm.trans H; with_reducible exact H2_) | with_reducible exact H | (rw [hy101]; exact H) | exact H
    have Ny101 := Aside0.mk hy101
    clear hy101
    by_cases c3 : (runesBytes y101).toList = a0.toList
    · rw [if_pos c3] at H
      have c3b0 : ((runesBytes y101).toList == a0.toList) = true := beq_iff_eq.mpr c3
      have c3b1 : ((runesBytes y101).toList != a0.toList) = false := bne_eq_false_iff_eq.mpr c3
      clear c3
      replace H := Option.bind_eq_some_iff.mp H
      obtain ⟨t104, A40, H⟩ := H
      replace H : (some (y101, !t104)) = some (r1, r2) := H
      have A4 := Aside0.mk A40
      clear A40
      as_aux_lemma =>
        simp only [Option.some.injEq, Prod.mk.injEq] at H
        obtain ⟨rfl, rfl⟩ := H
        go_enter Tryz.func32, Tryz.ntmps32
        go_wp2_with (first | ((with_reducible refine gate_dst (N := 6) rfl ?_); refine Kd.R_runes _ 21 rfl (N := 6) rfl 9 56 _ rfl a0 rfl Tryz.underlying9 Tryz.underlying56 Tryz.underlying21 (ok := fun _ => True) trivial (of_decide_eq_true (by first | (with_reducible assumption) | assumption)) (Below.refl _ _) (Nat.le_refl _) ?_; intro v102 w5 ho6 hb hg_ hnew_; clear hg_ hnew_; (first | rw [← Ny101.out] at ho6 | (simp only [Int.reduceToNat] at ho6; rw [← Ny101.out] at ho6)); have n0_ := Aside0.mk (Kd.R_lower ho6 (below_size (by repeat (first | (with_reducible first | exact HB.out | apply below_alloc | apply pw_below_drewN | apply below_drew1) | exact HB.out)))); have n1_ := Aside0.mk (below_step (by repeat (first | (with_reducible first | exact HB.out | apply below_alloc | apply pw_below_drewN | apply below_drew1) | exact HB.out)) hb); clear HB; have HO103 := n0_; have HB := n1_; clear n0_ n1_; clear hb ho6; have hcv7 := own_runestring (P := Tryz.prog) Tryz.underlying56 Tryz.underlying21 Tryz.underlying9 (Kd.own_of_R HO103.out); have hcv7d := own_runestring_d (P := Tryz.prog) Tryz.underlying56 Tryz.underlying21 Tryz.underlying9 (Kd.own_of_R HO103.out)) | (go_at_call 42; (with_reducible refine (spec_replaced.calls a0 t104 _ A4.out).mono ?_); rintro e w8 ⟨rfl, hb⟩; have n0_ := Aside0.mk (Kd.R_below (by (with_reducible repeat (first | apply Kd.R_alloc | apply Kd.R_drewN | apply Kd.R_drew)); exact HO103.out) hb); have n1_ := Aside0.mk (below_step (by repeat (first | (with_reducible first | exact HB.out | apply below_alloc | apply pw_below_drewN | apply below_drew1) | exact HB.out)) hb); clear HO103; clear HB; have HO103 := n0_; have HB := n1_; clear n0_ n1_; (try clear hb); (try clear hb2); (try clear hk); (try clear hi)))
        go_ret2
        exact ⟨_, by first | rfl | (simp [errW_none, errW_some] <;> rfl) | (simp [*, errW_none, errW_some] <;> rfl), by (with_reducible repeat (first | apply Kd.R_alloc | apply Kd.R_drewN | apply Kd.R_drew)); exact HO103.out, by repeat (first | (with_reducible first | exact HB.out | apply below_alloc | apply pw_below_drewN | apply below_drew1) | exact HB.out)⟩
    · rw [if_neg c3] at H
      have c3b0 : ((runesBytes y101).toList == a0.toList) = false := beq_eq_false_iff_ne.mpr c3
      have c3b1 : ((runesBytes y101).toList != a0.toList) = true := bne_iff_ne.mpr c3
      as_aux_lemma =>
        simp only [Option.some.injEq, Prod.mk.injEq] at H
        obtain ⟨rfl, rfl⟩ := H
        go_enter Tryz.func32, Tryz.ntmps32
        go_wp2_with (first | ((with_reducible refine gate_dst (N := 6) rfl ?_); refine Kd.R_runes _ 21 rfl (N := 6) rfl 9 56 _ rfl a0 rfl Tryz.underlying9 Tryz.underlying56 Tryz.underlying21 (ok := fun _ => True) trivial (of_decide_eq_true (by first | (with_reducible assumption) | assumption)) (Below.refl _ _) (Nat.le_refl _) ?_; intro v102 w9 ho10 hb hg_ hnew_; clear hg_ hnew_; (first | rw [← Ny101.out] at ho10 | (simp only [Int.reduceToNat] at ho10; rw [← Ny101.out] at ho10)); have n0_ := Aside0.mk (Kd.R_lower ho10 (below_size (by repeat (first | (with_reducible first | exact HB.out | apply below_alloc | apply pw_below_drewN | apply below_drew1) | exact HB.out)))); have n1_ := Aside0.mk (below_step (by repeat (first | (with_reducible first | exact HB.out | apply below_alloc | apply pw_below_drewN | apply below_drew1) | exact HB.out)) hb); clear HB; have HO103 := n0_; have HB := n1_; clear n0_ n1_; clear hb ho10; have hcv11 := own_runestring (P := Tryz.prog) Tryz.underlying56 Tryz.underlying21 Tryz.underlying9 (Kd.own_of_R HO103.out); have hcv11d := own_runestring_d (P := Tryz.prog) Tryz.underlying56 Tryz.underlying21 Tryz.underlying9 (Kd.own_of_R HO103.out)))
        go_ret2
        exact ⟨_, by first | rfl | (simp [errW_none, errW_some] <;> rfl) | (simp [*, errW_none, errW_some] <;> rfl), by (with_reducible repeat (first | apply Kd.R_alloc | apply Kd.R_drewN | apply Kd.R_drew)); exact HO103.out, by repeat (first | (with_reducible first | exact HB.out | apply below_alloc | apply pw_below_drewN | apply below_drew1) | exact HB.out)⟩
  · rw [if_neg c2] at H
    exact absurd H (by simp)

/-! ### spec_UTF8: function 21 -/
def spec_UTF8.f (a0 : ByteArray) : Option (Bool) := (spec_Points.f a0).bind fun bt105 => (some bt105.2)
set_option maxHeartbeats 8000000 in
set_option maxRecDepth 100000 in
theorem spec_UTF8.calls (a0 : ByteArray) (r : Bool) (w : World) (h : spec_UTF8.f a0 = some r) :
    Calls Tryz.prog 21 #[.string a0] w fun e w' => e = .returned (.bool r) ∧ Below w.heap.size w w' := by
  have HB := Aside0.mk (Below.refl w.heap.size w)
  have H : ((spec_Points.f a0).bind fun bt105 => (some bt105.2)) = some r := h
  clear h
  replace H := Option.bind_eq_some_iff.mp H
  obtain ⟨⟨t105, t106⟩, A20, H⟩ := H
  replace H : (some t106) = some r := H
  have A2 := Aside0.mk A20
  clear A20
  as_aux_lemma =>
    obtain rfl := Option.some.inj H
    go_enter Tryz.func21, Tryz.ntmps21
    go_wp2_with (first | ((with_reducible refine gate_callee (f := 32) rfl ?_); refine goesL_ (some 7) rfl rfl Tryz.func32 (by kernel_rfl) rfl #[.string a0] rfl (by (try simp only [List.map_toArray, List.map_cons, List.map_nil]); first | done | rfl | (simp only [List.length_drop, List.length_take]; rfl)) ?_; (with_reducible refine (spec_Points.calls a0 t105 t106 _ A2.out).mono ?_); rintro e w3 ⟨v107, rfl, ho0, hb⟩; refine ⟨_, rfl, ?_⟩; have n0_ := Aside0.mk (Kd.R_lower ho0 (below_size (by repeat (first | (with_reducible first | exact HB.out | apply below_alloc | apply pw_below_drewN | apply below_drew1) | exact HB.out)))); have n1_ := Aside0.mk (below_step (by repeat (first | (with_reducible first | exact HB.out | apply below_alloc | apply pw_below_drewN | apply below_drew1) | exact HB.out)) hb); clear HB; have HO108 := n0_; have HB := n1_; clear n0_ n1_; (try clear hb); (try clear hb2); (try clear hk); (try clear hi); (try clear ho0)))
    go_ret
    exact ⟨by first | rfl | (simp [errW_none, errW_some] <;> rfl) | (simp [*, errW_none, errW_some] <;> rfl), by repeat (first | (with_reducible first | exact HB.out | apply below_alloc | apply pw_below_drewN | apply below_drew1) | exact HB.out)⟩

end Go.Proofs.YtgjcejgcljjdhaaGreatDoor.P
