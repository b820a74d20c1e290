-- WRITTEN by xprint.py (a program of this session, over the kit's print) out of the translation. Not trusted: Lean checks it.
import Derived.Test.YtmdehalchdgoeaaDoorPx0
import Derived.Test.YtmdehalchdgoeaaDoorPx1
import Derived.Test.YtmdehalchdgoeaaDoorPx2
namespace Go.Proofs.YtmdehalchdgoeaaDoor.P
open Go.RowKit Go.Proofs.YtmdehalchdgoeaaDoorW.PrintWords Go.Proofs.YtmdehalchdgoeaaDoorW.PrintLast Go.Proofs.YtmdehalchdgoeaaDoorW.PrintMore
attribute [local go_sem] max2_int min2_int max_two min_two max_three min_three max_four min_four   -- for this text's walks alone
set_option linter.unusedVariables false
set_option linter.unusedSimpArgs false

/-! ### spec_Points: function 41 -/
def spec_Points.f (a0 : ByteArray) : Option (List Int × Bool) := if a0.size ≤ 70368744177664 then ((some (runesOf a0 : List Int)).bind fun y104 => (if (runesBytes y104).toList = a0.toList then ((spec_replaced.f a0).bind fun t107 => (some (y104, !t107))) else (some (y104, false)))) else (none)
set_option maxHeartbeats 8000000 in
set_option maxRecDepth 100000 in
theorem spec_Points.calls (a0 : ByteArray) (r1 : List Int) (r2 : Bool) (w : World) (h : spec_Points.f a0 = some (r1, r2)) :
    Calls Tryd.prog 41 #[.string a0] w fun e w' => ∃ v0_ : Value, e = .returned (.tuple #[v0_, .bool r2]) ∧ Kd.R (Kd.int .i32) 21 w' w.heap.size (fun _ => True) v0_ r1 ∧ Below w.heap.size w w' := by
  have HB := Aside0.mk (Below.refl w.heap.size w)
  have H : (if a0.size ≤ 70368744177664 then ((some (runesOf a0 : List Int)).bind fun y104 => (if (runesBytes y104).toList = a0.toList then ((spec_replaced.f a0).bind fun t107 => (some (y104, !t107))) else (some (y104, false)))) else (none)) = some (r1, r2) := h
  clear h
  by_cases c2 : a0.size ≤ 70368744177664
  · rw [if_pos c2] at H
    have c2b0 := eq_true c2
    have c2b1 : decide (a0.size ≤ 70368744177664) = true := decide_eq_true c2
    clear c2
    obtain ⟨y104, hy104⟩ : ∃ y_ : List Int, y_ = (runesOf a0) := ⟨_, rfl⟩
    replace H : (if (runesBytes y104).toList = a0.toList then ((spec_replaced.f a0).bind fun t107 => (some (y104, !t107))) else (some (y104, false))) = some (r1, r2) := by first | (rw [hy104]; with_reducible exact H) | (have H2_ := (Option.bind_some _ _).symm.trans H; rw [hy104]; with_reducible exact H2_) | (have H2_ := (Option.bind_some _ _).symm.trans H; with_reducible exact H2_) | with_reducible exact H | (rw [hy104]; exact H) | exact H
    have Ny104 := Aside0.mk hy104
    clear hy104
    by_cases c3 : (runesBytes y104).toList = a0.toList
    · rw [if_pos c3] at H
      have c3b0 : ((runesBytes y104).toList == a0.toList) = true := beq_iff_eq.mpr c3
      have c3b1 : ((runesBytes y104).toList != a0.toList) = false := bne_eq_false_iff_eq.mpr c3
      clear c3
      replace H := Option.bind_eq_some_iff.mp H
      obtain ⟨t107, A40, H⟩ := H
      replace H : (some (y104, !t107)) = some (r1, r2) := H
      have A4 := Aside0.mk A40
      clear A40
      simp only [Option.some.injEq, Prod.mk.injEq] at H
      obtain ⟨rfl, rfl⟩ := H
      go_enter Tryd.func41, Tryd.ntmps41
      go_wp2_with (first | ((with_reducible refine gate_dst (N := 6) rfl ?_); refine Kd.R_runes _ 21 rfl (N := 6) rfl 9 37 _ rfl a0 rfl Tryd.underlying9 Tryd.underlying37 Tryd.underlying21 (ok := fun _ => True) trivial (of_decide_eq_true (by first | (with_reducible assumption) | assumption)) (Below.refl _ _) (Nat.le_refl _) ?_; intro v105 w5 ho6 hb hg_ hnew_; clear hg_ hnew_; (first | rw [← Ny104.out] at ho6 | (simp only [Int.reduceToNat] at ho6; rw [← Ny104.out] at ho6)); have n0_ := Aside0.mk (Kd.R_lower ho6 (below_size (by repeat (first | (with_reducible first | exact HB.out | apply below_alloc | apply pw_below_drewN | apply below_drew1) | exact HB.out)))); have n1_ := Aside0.mk (below_step (by repeat (first | (with_reducible first | exact HB.out | apply below_alloc | apply pw_below_drewN | apply below_drew1) | exact HB.out)) hb); clear HB; have HO106 := n0_; have HB := n1_; clear n0_ n1_; clear hb ho6; have hcv7 := own_runestring (P := Tryd.prog) Tryd.underlying37 Tryd.underlying21 Tryd.underlying9 (Kd.own_of_R HO106.out); have hcv7d := own_runestring_d (P := Tryd.prog) Tryd.underlying37 Tryd.underlying21 Tryd.underlying9 (Kd.own_of_R HO106.out)) | (go_at_call 55; (with_reducible refine (spec_replaced.calls a0 t107 _ A4.out).mono ?_); rintro e w8 ⟨rfl, hb⟩; have n0_ := Aside0.mk (Kd.R_below (by (with_reducible repeat (first | apply Kd.R_alloc | apply Kd.R_drewN | apply Kd.R_drew)); exact HO106.out) hb); have n1_ := Aside0.mk (below_step (by repeat (first | (with_reducible first | exact HB.out | apply below_alloc | apply pw_below_drewN | apply below_drew1) | exact HB.out)) hb); clear HO106; clear HB; have HO106 := n0_; have HB := n1_; clear n0_ n1_; (try clear hb); (try clear hb2); (try clear hk); (try clear hi)))
      go_ret2
      exact ⟨_, by first | rfl | (simp [errW_none, errW_some] <;> rfl) | (simp [*, errW_none, errW_some] <;> rfl), by (with_reducible repeat (first | apply Kd.R_alloc | apply Kd.R_drewN | apply Kd.R_drew)); exact HO106.out, by repeat (first | (with_reducible first | exact HB.out | apply below_alloc | apply pw_below_drewN | apply below_drew1) | exact HB.out)⟩
    · rw [if_neg c3] at H
      have c3b0 : ((runesBytes y104).toList == a0.toList) = false := beq_eq_false_iff_ne.mpr c3
      have c3b1 : ((runesBytes y104).toList != a0.toList) = true := bne_iff_ne.mpr c3
      simp only [Option.some.injEq, Prod.mk.injEq] at H
      obtain ⟨rfl, rfl⟩ := H
      go_enter Tryd.func41, Tryd.ntmps41
      go_wp2_with (first | ((with_reducible refine gate_dst (N := 6) rfl ?_); refine Kd.R_runes _ 21 rfl (N := 6) rfl 9 37 _ rfl a0 rfl Tryd.underlying9 Tryd.underlying37 Tryd.underlying21 (ok := fun _ => True) trivial (of_decide_eq_true (by first | (with_reducible assumption) | assumption)) (Below.refl _ _) (Nat.le_refl _) ?_; intro v105 w9 ho10 hb hg_ hnew_; clear hg_ hnew_; (first | rw [← Ny104.out] at ho10 | (simp only [Int.reduceToNat] at ho10; rw [← Ny104.out] at ho10)); have n0_ := Aside0.mk (Kd.R_lower ho10 (below_size (by repeat (first | (with_reducible first | exact HB.out | apply below_alloc | apply pw_below_drewN | apply below_drew1) | exact HB.out)))); have n1_ := Aside0.mk (below_step (by repeat (first | (with_reducible first | exact HB.out | apply below_alloc | apply pw_below_drewN | apply below_drew1) | exact HB.out)) hb); clear HB; have HO106 := n0_; have HB := n1_; clear n0_ n1_; clear hb ho10; have hcv11 := own_runestring (P := Tryd.prog) Tryd.underlying37 Tryd.underlying21 Tryd.underlying9 (Kd.own_of_R HO106.out); have hcv11d := own_runestring_d (P := Tryd.prog) Tryd.underlying37 Tryd.underlying21 Tryd.underlying9 (Kd.own_of_R HO106.out)))
      go_ret2
      exact ⟨_, by first | rfl | (simp [errW_none, errW_some] <;> rfl) | (simp [*, errW_none, errW_some] <;> rfl), by (with_reducible repeat (first | apply Kd.R_alloc | apply Kd.R_drewN | apply Kd.R_drew)); exact HO106.out, by repeat (first | (with_reducible first | exact HB.out | apply below_alloc | apply pw_below_drewN | apply below_drew1) | exact HB.out)⟩
  · rw [if_neg c2] at H
    exact absurd H (by simp)

-- NOT PRINTED: function 47 (spec_cut)

/-! ### spec_cut_IsSpace: function 47 -/
mutual
def spec_cut_IsSpace.j1 : Nat → List Int → Option (ByteArray)
  | 0, _ => none
  | k + 1, x5 => spec_cut_IsSpace.l1 k x5
def spec_cut_IsSpace.l1 : Nat → List Int → Option (ByteArray)
  | 0, _ => none
  | k + 1, x5 => if (x5.length : Int) > 0 then (if 0 ≤ (wrap64 ((x5.length : Int) - 1)) then (if (wrap64 ((x5.length : Int) - 1)) < (x5.length : Int) then ((spec_IsSpace.f (rd x5 (wrap64 ((x5.length : Int) - 1)))).bind fun t118 => (if t118 = true then (if (wrap64 ((x5.length : Int) - 1)) ≤ (x5.length : Int) then (spec_cut_IsSpace.l1 k (x5.take ((wrap64 ((x5.length : Int) - 1)) : Int).toNat)) else (none)) else (some (runesBytes x5)))) else (none)) else (none)) else (some (runesBytes x5))
def spec_cut_IsSpace.l0 : Nat → List Int → Option (ByteArray)
  | 0, _ => none
  | k + 1, x5 => if (x5.length : Int) > 0 then (if 0 < (x5.length : Int) then ((spec_IsSpace.f (rd x5 0)).bind fun t113 => (if t113 = true then (if 1 ≤ (x5.length : Int) then (spec_cut_IsSpace.l0 k (x5.drop (1 : Int).toNat)) else (none)) else (spec_cut_IsSpace.j1 k x5))) else (none)) else (spec_cut_IsSpace.j1 k x5)
end
def spec_cut_IsSpace.f (k : Nat) (a0 : ByteArray) : Option (ByteArray) := (spec_Points.f a0).bind fun bt108 => (spec_cut_IsSpace.l0 k bt108.1)
theorem spec_cut_IsSpace.mono_l : ∀ k, (∀ y0, LeO (spec_cut_IsSpace.j1 k y0) (spec_cut_IsSpace.j1 (k + 1) y0)) ∧ (∀ y0, LeO (spec_cut_IsSpace.l1 k y0) (spec_cut_IsSpace.l1 (k + 1) y0)) ∧ (∀ y0, LeO (spec_cut_IsSpace.l0 k y0) (spec_cut_IsSpace.l0 (k + 1) y0))
  | 0 => ⟨fun _ r h => by simp [spec_cut_IsSpace.j1] at h, fun _ r h => by simp [spec_cut_IsSpace.l1] at h, fun _ r h => by simp [spec_cut_IsSpace.l0] at h⟩
  | k + 1 => by
    obtain ⟨ih0, ih1, ih2⟩ := spec_cut_IsSpace.mono_l k
    refine ⟨?_, ?_, ?_⟩
    · intro y0
      unfold spec_cut_IsSpace.j1
      repeat' first
      | (with_reducible exact ih0 _)
      | (with_reducible exact ih1 _)
      | (with_reducible exact ih2 _)
      | (with_reducible exact LeO.refl _)
      | (with_reducible exact LeO.none _)
      | (with_reducible refine LeO.ite ?_ ?_)
      | (with_reducible refine LeO.bind ?_ (fun _ => ?_))
      | exact ih0 _
      | exact ih1 _
      | exact ih2 _
      | exact LeO.none _
      | refine LeO.ite ?_ ?_
      | refine LeO.bind ?_ (fun _ => ?_)
    · intro y0
      unfold spec_cut_IsSpace.l1
      repeat' first
      | (with_reducible exact ih0 _)
      | (with_reducible exact ih1 _)
      | (with_reducible exact ih2 _)
      | (with_reducible exact LeO.refl _)
      | (with_reducible exact LeO.none _)
      | (with_reducible refine LeO.ite ?_ ?_)
      | (with_reducible refine LeO.bind ?_ (fun _ => ?_))
      | exact ih0 _
      | exact ih1 _
      | exact ih2 _
      | exact LeO.none _
      | refine LeO.ite ?_ ?_
      | refine LeO.bind ?_ (fun _ => ?_)
    · intro y0
      unfold spec_cut_IsSpace.l0
      repeat' first
      | (with_reducible exact ih0 _)
      | (with_reducible exact ih1 _)
      | (with_reducible exact ih2 _)
      | (with_reducible exact LeO.refl _)
      | (with_reducible exact LeO.none _)
      | (with_reducible refine LeO.ite ?_ ?_)
      | (with_reducible refine LeO.bind ?_ (fun _ => ?_))
      | exact ih0 _
      | exact ih1 _
      | exact ih2 _
      | exact LeO.none _
      | refine LeO.ite ?_ ?_
      | refine LeO.bind ?_ (fun _ => ?_)
theorem spec_cut_IsSpace.mono : ∀ a0 k, LeO (spec_cut_IsSpace.f k a0) (spec_cut_IsSpace.f (k + 1) a0) := by
  intro a0 k
  obtain ⟨ih0, ih1, ih2⟩ := spec_cut_IsSpace.mono_l k
  unfold spec_cut_IsSpace.f
  repeat' first
      | (with_reducible exact ih0 _)
      | (with_reducible exact ih1 _)
      | (with_reducible exact ih2 _)
      | (with_reducible exact LeO.refl _)
      | (with_reducible exact LeO.none _)
      | (with_reducible refine LeO.ite ?_ ?_)
      | (with_reducible refine LeO.bind ?_ (fun _ => ?_))
      | exact ih0 _
      | exact ih1 _
      | exact ih2 _
      | exact LeO.none _
      | refine LeO.ite ?_ ?_
      | refine LeO.bind ?_ (fun _ => ?_)
set_option maxHeartbeats 8000000 in
set_option maxRecDepth 100000 in
theorem spec_cut_IsSpace.calls (k : Nat) (a0 : ByteArray) (r : ByteArray) (w : World) (h : spec_cut_IsSpace.f k a0 = some r) :
    Calls Tryd.prog 47 #[.string a0, .func (Fn.func 42) #[] #[]] w fun e w' => e = .returned (.string r) ∧ Below w.heap.size w w' := by
  have HB := Aside0.mk (Below.refl w.heap.size w)
  have H : ((spec_Points.f a0).bind fun bt108 => (spec_cut_IsSpace.l0 k bt108.1)) = some r := h
  clear h
  replace H := Option.bind_eq_some_iff.mp H
  obtain ⟨⟨t108, t109⟩, A20, H⟩ := H
  replace H : (spec_cut_IsSpace.l0 k t108) = some r := H
  have A2 := Aside0.mk A20
  clear A20
  have HC3 := Aside0.mk H
  clear H
  go_enter Tryd.func47, Tryd.ntmps47
  go_upto_block 0 with (first | ((with_reducible refine gate_callee (f := 41) rfl ?_); refine goesL_ (some 9) rfl rfl Tryd.func41 (by kernel_rfl) rfl #[.string a0] rfl (by (try simp only [List.map_toArray, List.map_cons, List.map_nil]); first | done | rfl | (simp only [List.length_drop, List.length_take]; rfl)) ?_; (with_reducible refine (spec_Points.calls a0 t108 t109 _ A2.out).mono ?_); rintro e w4 ⟨v110, rfl, ho0, hb⟩; refine ⟨_, rfl, ?_⟩; have n0_ := Aside0.mk (Kd.R_lower ho0 (below_size (by repeat (first | (with_reducible first | exact HB.out | apply below_alloc | apply pw_below_drewN | apply below_drew1) | exact HB.out)))); have n1_ := Aside0.mk (below_step (by repeat (first | (with_reducible first | exact HB.out | apply below_alloc | apply pw_below_drewN | apply below_drew1) | exact HB.out)) hb); clear HB; have HO111 := n0_; have HB := n1_; clear n0_ n1_; (try clear hb); (try clear hb2); (try clear hk); (try clear hi); (try clear ho0)))
  (try simp only [Act.put, List.setIfInBounds_toArray, List.set_cons_zero, List.set_cons_succ])
  go_cut [5] (fun v5 wc => ∃ (kq : Nat) (x5_2 : List Int), Aside0 (spec_cut_IsSpace.j1 kq x5_2 = some r) ∧ Aside0 (kq ≤ k) ∧ Aside0 (Kd.Q (Kd.int .i32) 21 wc w.heap.size (fun _ => True) v5 x5_2) ∧ Aside0 (Below w.heap.size w wc))
  case first =>
    have H := HC3.out
    clear HC3
    have H' := Aside0.mk H
    clear H
    go_wp2
    go_loopg [5] k (fun kq v5 w' => ∃ (x5_1 : List Int), Aside0 (spec_cut_IsSpace.l0 kq x5_1 = some r) ∧ Aside0 (kq ≤ k) ∧ Aside0 (Kd.Q (Kd.int .i32) 21 w' w.heap.size (fun _ => True) v5 x5_1) ∧ Aside0 (Below w.heap.size w w'))
    case atStart => exact ⟨(t108), H', ⟨Nat.le_refl _⟩, ⟨Kd.Q_of_R (by (with_reducible repeat (first | apply Kd.R_alloc | apply Kd.R_drewN | apply Kd.R_drew)); exact HO111.out)⟩, ⟨by repeat (first | (with_reducible first | exact HB.out | apply below_alloc | apply pw_below_drewN | apply below_drew1) | exact HB.out)⟩⟩
    case round =>
      clear H'
      try clear p2
      try clear c4
      obtain ⟨x5_1, HA, HK1, HO_5, HB⟩ := hrel
      cases gk with
      | zero => exact absurd HA.out (by simp [spec_cut_IsSpace.l0])
      | succ k1 =>
        have H := HA.out
        clear HA
        simp only [spec_cut_IsSpace.l0] at H
        by_cases c5 : (x5_1.length : Int) > 0
        · rw [if_pos c5] at H
          have c5b0 : decide (0 < (x5_1.length : Int)) = true := decide_eq_true c5
          have c5b1 : decide (0 < x5_1.length) = true := decide_eq_true (by omega)
          clear c5
          (first | rw [c5b0] | (simp only [i64_w, i32_w]; rw [c5b0]) | skip)
          by_cases c6 : 0 < (x5_1.length : Int)
          · rw [if_pos c6] at H
            have c6b0 : decide (0 < (x5_1.length : Int)) = true := decide_eq_true c6
            have c6b1 : decide (0 < x5_1.length) = true := decide_eq_true (by omega)
            clear c6
            replace H := Option.bind_eq_some_iff.mp H
            obtain ⟨t113, A70, H⟩ := H
            replace H : (if t113 = true then (if 1 ≤ (x5_1.length : Int) then (spec_cut_IsSpace.l0 k1 (x5_1.drop (1 : Int).toNat)) else (none)) else (spec_cut_IsSpace.j1 k1 x5_1)) = some r := H
            have A7 := Aside0.mk A70
            clear A70
            by_cases c8 : t113 = true
            · subst c8
              have H1 : (if 1 ≤ (x5_1.length : Int) then (spec_cut_IsSpace.l0 k1 (x5_1.drop (1 : Int).toNat)) else (none)) = some r := by rw [if_pos rfl] at H; exact H
              clear H
              have H := H1
              clear H1
              by_cases c9 : 1 ≤ (x5_1.length : Int)
              · rw [if_pos c9] at H
                have c9b0 := eq_true c9
                have c9b1 : decide (1 ≤ (x5_1.length : Int)) = true := decide_eq_true c9
                clear c9
                obtain ⟨y114, hy114⟩ : ∃ y_ : List Int, y_ = (x5_1.drop (1 : Int).toNat) := ⟨_, rfl⟩
                replace H : (spec_cut_IsSpace.l0 k1 y114) = some r := by first | (rw [hy114]; with_reducible exact H) | (have H2_ := (Option.bind_some _ _).symm.trans H; rw [hy114]; with_reducible exact H2_) | (have H2_ := (Option.bind_some _ _).symm.trans H; with_reducible exact H2_) | with_reducible exact H | (rw [hy114]; exact H) | exact H
                have Ny114 := Aside0.mk hy114
                clear hy114
                have H' := Aside0.mk H
                clear H
                obtain ⟨Ao10, co10, eo10, _⟩ := Kd.Q_slice HO_5.out
                subst eo10
                have p112 : 0 ≤ (0 : Int) := (by omega)
                have q112 : 0 < (x5_1.length : Int) := of_decide_eq_true (by first | (with_reducible assumption) | assumption)
                obtain ⟨ad112, e112, hx112_0⟩ := Kd.at_int (Kd.Q_reads' HO_5.out).2.2 0 p112 q112
                cases e112
                have qi112 : (0 < x5_1.length) = True := eq_true (by omega)
                (try rw [show ((0 : Int)).toNat = 0 from rfl] at hx112_0)
                (try rw [Addr.add_zero'] at hx112_0)
                replace p112 := eq_true p112
                replace q112 := eq_true q112
                go_wp2_with (first | (go_at_call 42; (with_reducible refine (spec_IsSpace.calls (rd x5_1 0) true _ A7.out).mono ?_); rintro e w' ⟨rfl, ⟨nd, rfl⟩⟩; have q11 : (1 : Int) ≤ ((x5_1.length : Int) : Int) := of_decide_eq_true (by first | (with_reducible assumption) | assumption); obtain ⟨i011, hi011, _, hsz11, _⟩ := info_parts info21; have hcut11 := cut_from (P := Tryd.prog) 37 21 .i64 Tryd.underlying37 hi011 1 hsz11 (some ad112) x5_1.length co10 1 (by omega) q11; have hr11 := Kd.Q_drop (k := (1 : Int).toNat) HO_5.out (by omega); obtain ⟨A11, hA11⟩ : ∃ A1, A1 = (if co10 = (1 : Int).toNat then (some ad112) else ((some ad112) : Option Addr).map (·.add ((1 : Int).toNat * 1))) := ⟨_, rfl⟩; obtain ⟨c11, hc11⟩ : ∃ c1, c1 = co10 - (1 : Int).toNat := ⟨_, rfl⟩; have hy11 : y114.length = x5_1.length - (1 : Int).toNat := (by rw [Ny114.out, List.length_drop]); rw [← Ny114.out] at hr11; rw [← hy11, ← hA11, ← hc11] at hcut11; replace hr11 : Kd.Q (Kd.int .i32) 21 wr w.heap.size (fun _ => True) (.slice A11 y114.length c11) y114 := (by rw [hA11, hc11, hy11]; exact hr11); have HE11 : Aside0 ((Value.slice A11 y114.length c11).ownBlock = (.slice (some ad112) x5_1.length co10 : Value).ownBlock) := ⟨by rw [hA11]; split <;> (cases ((some ad112) : Option Addr) <;> rfl)⟩; clear hy11 hi011 hsz11 HO_5 hA11 hc11; have HO116 := Aside0.mk hr11; clear hr11; replace q11 := eq_true q11))
                go_roundg k1
                case measure => have := HK1.out; omega
                case rel => exact ⟨(y114), H', ⟨by have := HK1.out; omega⟩, ⟨by (with_reducible repeat (first | apply Kd.Q_alloc | apply Kd.Q_drewN | apply Kd.Q_drew)); exact HO116.out⟩, ⟨by repeat (first | (with_reducible first | exact HB.out | apply below_alloc | apply pw_below_drewN | apply below_drew1) | exact HB.out)⟩⟩
              · rw [if_neg c9] at H
                exact absurd H (by simp)
            · replace c8 := Bool.eq_false_iff.mpr c8
              subst c8
              have H1 : (spec_cut_IsSpace.j1 k1 x5_1) = some r := by rw [if_neg (show ¬ (false = true) by decide)] at H; exact H
              clear H
              have H := H1
              clear H1
              have H' := Aside0.mk H
              clear H
              obtain ⟨Ao12, co12, eo12, _⟩ := Kd.Q_slice HO_5.out
              subst eo12
              have p112 : 0 ≤ (0 : Int) := (by omega)
              have q112 : 0 < (x5_1.length : Int) := of_decide_eq_true (by first | (with_reducible assumption) | assumption)
              obtain ⟨ad112, e112, hx112_0⟩ := Kd.at_int (Kd.Q_reads' HO_5.out).2.2 0 p112 q112
              cases e112
              have qi112 : (0 < x5_1.length) = True := eq_true (by omega)
              (try rw [show ((0 : Int)).toNat = 0 from rfl] at hx112_0)
              (try rw [Addr.add_zero'] at hx112_0)
              replace p112 := eq_true p112
              replace q112 := eq_true q112
              go_wp2_with (first | (go_at_call 42; (with_reducible refine (spec_IsSpace.calls (rd x5_1 0) false _ A7.out).mono ?_); rintro e w' ⟨rfl, ⟨nd, rfl⟩⟩))
              go_meet
              case rel => exact ⟨_, (x5_1), H', ⟨by have := HK1.out; first | omega | exact Nat.le_refl _⟩, ⟨by (with_reducible repeat (first | apply Kd.Q_alloc | apply Kd.Q_drewN | apply Kd.Q_drew)); exact HO_5.out⟩, ⟨by repeat (first | (with_reducible first | exact HB.out | apply below_alloc | apply pw_below_drewN | apply below_drew1) | exact HB.out)⟩⟩
          · rw [if_neg c6] at H
            exact absurd H (by simp)
        · rw [if_neg c5] at H
          have c5b0 : decide (0 < (x5_1.length : Int)) = false := decide_eq_false c5
          have c5b1 : decide (0 < x5_1.length) = false := decide_eq_false (by omega)
          clear c5
          (first | rw [c5b0] | (simp only [i64_w, i32_w]; rw [c5b0]) | skip)
          have H' := Aside0.mk H
          clear H
          obtain ⟨Ao13, co13, eo13, _⟩ := Kd.Q_slice HO_5.out
          subst eo13
          go_wp2
          go_meet
          case rel => exact ⟨_, (x5_1), H', ⟨by have := HK1.out; first | omega | exact Nat.le_refl _⟩, ⟨by (with_reducible repeat (first | apply Kd.Q_alloc | apply Kd.Q_drewN | apply Kd.Q_drew)); exact HO_5.out⟩, ⟨by repeat (first | (with_reducible first | exact HB.out | apply below_alloc | apply pw_below_drewN | apply below_drew1) | exact HB.out)⟩⟩
  case rest =>
    clear HC3
    try clear c1
    try clear p1
    try clear q1
    try clear hx1
    try clear qi1
    try clear p2
    try clear c4
    try clear c5
    try clear c5b0
    try clear c5b1
    try clear c6
    try clear c6b0
    try clear c6b1
    try clear c8
    try clear c9
    try clear c9b0
    try clear c9b1
    try clear c11
    try clear p11
    try clear q11
    try clear hx11
    try clear qi11
    try clear hx112_0
    try clear p112
    try clear p2
    try clear q11
    try clear q112
    obtain ⟨kq, x5_2, HA, HJ2, HO_5, HB⟩ := hcut
    cases kq with
    | zero => exact absurd HA.out (by simp [spec_cut_IsSpace.j1])
    | succ kj2 =>
      have H := HA.out
      clear HA
      simp only [spec_cut_IsSpace.j1] at H
      have H' := Aside0.mk H
      clear H
      go_wp2
      go_loopg [5] kj2 (fun kq v5 w' => ∃ (x5_2 : List Int), Aside0 (spec_cut_IsSpace.l1 kq x5_2 = some r) ∧ Aside0 (kq ≤ kj2) ∧ Aside0 (Kd.Q (Kd.int .i32) 21 w' w.heap.size (fun _ => True) v5 x5_2) ∧ Aside0 (Below w.heap.size w w'))
      case atStart => exact ⟨(x5_2), H', ⟨Nat.le_refl _⟩, ⟨by (with_reducible repeat (first | apply Kd.Q_alloc | apply Kd.Q_drewN | apply Kd.Q_drew)); exact HO_5.out⟩, ⟨by repeat (first | (with_reducible first | exact HB.out | apply below_alloc | apply pw_below_drewN | apply below_drew1) | exact HB.out)⟩⟩
      case round =>
        clear H'
        try clear c1
        try clear p1
        try clear q1
        try clear hx1
        try clear qi1
        try clear p2
        try clear c4
        try clear c5
        try clear c5b0
        try clear c5b1
        try clear c6
        try clear c6b0
        try clear c6b1
        try clear c8
        try clear c9
        try clear c9b0
        try clear c9b1
        try clear c11
        try clear p11
        try clear q11
        try clear hx11
        try clear qi11
        try clear hx112_0
        try clear p1
        try clear p11
        try clear p112
        try clear p2
        try clear q1
        try clear q11
        try clear q112
        obtain ⟨x5_2, HA, HK2, HO_5, HB⟩ := hrel
        cases gk with
        | zero => exact absurd HA.out (by simp [spec_cut_IsSpace.l1])
        | succ k2 =>
          have H := HA.out
          clear HA
          simp only [spec_cut_IsSpace.l1] at H
          by_cases c14 : (x5_2.length : Int) > 0
          · rw [if_pos c14] at H
            have c14b0 : decide (0 < (x5_2.length : Int)) = true := decide_eq_true c14
            have c14b1 : decide (0 < x5_2.length) = true := decide_eq_true (by omega)
            clear c14
            obtain ⟨ji15, hji15⟩ : ∃ j_ : Int, (wrap64 ((x5_2.length : Int) - 1)) = j_ := ⟨_, rfl⟩
            replace H : (if 0 ≤ (ji15) then (if (ji15) < (x5_2.length : Int) then ((spec_IsSpace.f (rd x5_2 (ji15))).bind fun t118 => (if t118 = true then (if (ji15) ≤ (x5_2.length : Int) then (spec_cut_IsSpace.l1 k2 (x5_2.take ((ji15) : Int).toNat)) else (none)) else (some (runesBytes x5_2)))) else (none)) else (none)) = some r := by first | (rw [hji15] at H; exact H) | (simp only [hji15] at H ⊢; exact H)
            have hji15w : (IntKind.i64.wrap ((x5_2.length : Int) - 1)) = ji15 := (i64_w _).trans hji15
            by_cases c16 : 0 ≤ (ji15)
            · rw [if_pos c16] at H
              have c16b0 : decide (0 ≤ (ji15)) = true := decide_eq_true c16
              clear c16
              by_cases c17 : (ji15) < (x5_2.length : Int)
              · rw [if_pos c17] at H
                have c17b0 : decide ((ji15) < (x5_2.length : Int)) = true := decide_eq_true c17
                clear c17
                replace H := Option.bind_eq_some_iff.mp H
                obtain ⟨t118, A180, H⟩ := H
                replace H : (if t118 = true then (if (ji15) ≤ (x5_2.length : Int) then (spec_cut_IsSpace.l1 k2 (x5_2.take ((ji15) : Int).toNat)) else (none)) else (some (runesBytes x5_2))) = some r := H
                have A18 := Aside0.mk A180
                clear A180
                by_cases c19 : t118 = true
                · subst c19
                  have H1 : (if (ji15) ≤ (x5_2.length : Int) then (spec_cut_IsSpace.l1 k2 (x5_2.take ((ji15) : Int).toNat)) else (none)) = some r := by rw [if_pos rfl] at H; exact H
                  clear H
                  have H := H1
                  clear H1
                  by_cases c20 : (ji15) ≤ (x5_2.length : Int)
                  · rw [if_pos c20] at H
                    have c20b0 := eq_true c20
                    have c20b1 : decide ((ji15) ≤ (x5_2.length : Int)) = true := decide_eq_true c20
                    clear c20
                    obtain ⟨y119, hy119⟩ : ∃ y_ : List Int, y_ = (x5_2.take ((ji15) : Int).toNat) := ⟨_, rfl⟩
                    replace H : (spec_cut_IsSpace.l1 k2 y119) = some r := by first | (rw [hy119]; with_reducible exact H) | (have H2_ := (Option.bind_some _ _).symm.trans H; rw [hy119]; with_reducible exact H2_) | (have H2_ := (Option.bind_some _ _).symm.trans H; with_reducible exact H2_) | with_reducible exact H | (rw [hy119]; exact H) | exact H
                    have Ny119 := Aside0.mk hy119
                    clear hy119
                    have H' := Aside0.mk H
                    clear H
                    obtain ⟨Ao21, co21, eo21, _⟩ := Kd.Q_slice HO_5.out
                    subst eo21
                    have p117 : 0 ≤ ((ji15) : Int) := of_decide_eq_true (by first | (with_reducible assumption) | assumption)
                    have q117 : (ji15) < (x5_2.length : Int) := of_decide_eq_true (by first | (with_reducible assumption) | assumption)
                    obtain ⟨ad117, e117, hx117_0⟩ := Kd.at_int (Kd.Q_reads' HO_5.out).2.2 (ji15) p117 q117
                    cases e117
                    replace p117 := eq_true p117
                    replace q117 := eq_true q117
                    go_wp2_with (first | (go_at_call 42; (with_reducible refine (spec_IsSpace.calls (rd x5_2 (ji15)) true _ A18.out).mono ?_); rintro e w' ⟨rfl, ⟨nd, rfl⟩⟩; have q22 : ((ji15) : Int) ≤ ((x5_2.length : Int) : Int) := of_decide_eq_true (by first | (with_reducible assumption) | assumption); obtain ⟨i022, hi022, _, hsz22, _⟩ := info_parts info21; have hcut22 := cut_to (P := Tryd.prog) 37 21 .i64 Tryd.underlying37 hi022 (some ad117) x5_2.length co21 (ji15) (of_decide_eq_true (by first | (with_reducible assumption) | assumption)) q22 (Kd.Q_reads' HO_5.out).2.1; have hr22 := Kd.Q_take (m := ((ji15) : Int).toNat) HO_5.out (by omega); have hy22 : y119.length = ((ji15) : Int).toNat := (by rw [Ny119.out, List.length_take]; omega); rw [← Ny119.out] at hr22; rw [← hy22] at hr22 hcut22; clear hy22 hi022 hsz22 HO_5; have HO121 := Aside0.mk hr22; clear hr22; replace q22 := eq_true q22))
                    go_roundg k2
                    case measure => have := HJ2.out; have := HK2.out; omega
                    case rel => exact ⟨(y119), H', ⟨by have := HJ2.out; have := HK2.out; omega⟩, ⟨by (with_reducible repeat (first | apply Kd.Q_alloc | apply Kd.Q_drewN | apply Kd.Q_drew)); exact HO121.out⟩, ⟨by repeat (first | (with_reducible first | exact HB.out | apply below_alloc | apply pw_below_drewN | apply below_drew1) | exact HB.out)⟩⟩
                  · rw [if_neg c20] at H
                    exact absurd H (by simp)
                · replace c19 := Bool.eq_false_iff.mpr c19
                  subst c19
                  have H1 : (some (runesBytes x5_2)) = some r := by rw [if_neg (show ¬ (false = true) by decide)] at H; exact H
                  clear H
                  have H := H1
                  clear H1
                  obtain rfl := Option.some.inj H
                  obtain ⟨Ao23, co23, eo23, _⟩ := Kd.Q_slice HO_5.out
                  subst eo23
                  have p117 : 0 ≤ ((ji15) : Int) := of_decide_eq_true (by first | (with_reducible assumption) | assumption)
                  have q117 : (ji15) < (x5_2.length : Int) := of_decide_eq_true (by first | (with_reducible assumption) | assumption)
                  obtain ⟨ad117, e117, hx117_0⟩ := Kd.at_int (Kd.Q_reads' HO_5.out).2.2 (ji15) p117 q117
                  cases e117
                  replace p117 := eq_true p117
                  replace q117 := eq_true q117
                  go_wp2_with (first | (go_at_call 42; (with_reducible refine (spec_IsSpace.calls (rd x5_2 (ji15)) false _ A18.out).mono ?_); rintro e w' ⟨rfl, ⟨nd, rfl⟩⟩; have hcv24 := Q_runestring (P := Tryd.prog) Tryd.underlying37 Tryd.underlying21 Tryd.underlying9 (HO_5.out); have hcv24d := Q_runestring_d (P := Tryd.prog) Tryd.underlying37 Tryd.underlying21 Tryd.underlying9 (HO_5.out)))
                  go_ret
                  exact ⟨by first | rfl | (simp [errW_none, errW_some] <;> rfl) | (simp only [← hji15]; first | rfl | (simp [errW_none, errW_some] <;> rfl)) | (simp [*, errW_none, errW_some] <;> rfl), by repeat (first | (with_reducible first | exact HB.out | apply below_alloc | apply pw_below_drewN | apply below_drew1) | exact HB.out)⟩
              · rw [if_neg c17] at H
                exact absurd H (by simp)
            · rw [if_neg c16] at H
              exact absurd H (by simp)
          · rw [if_neg c14] at H
            have c14b0 : decide (0 < (x5_2.length : Int)) = false := decide_eq_false c14
            have c14b1 : decide (0 < x5_2.length) = false := decide_eq_false (by omega)
            clear c14
            obtain rfl := Option.some.inj H
            obtain ⟨Ao25, co25, eo25, _⟩ := Kd.Q_slice HO_5.out
            subst eo25
            have hcv26 := Q_runestring (P := Tryd.prog) Tryd.underlying37 Tryd.underlying21 Tryd.underlying9 (HO_5.out)
            have hcv26d := Q_runestring_d (P := Tryd.prog) Tryd.underlying37 Tryd.underlying21 Tryd.underlying9 (HO_5.out)
            go_wp2
            go_ret
            exact ⟨by first | rfl | (simp [errW_none, errW_some] <;> rfl) | (simp [*, errW_none, errW_some] <;> rfl), by repeat (first | (with_reducible first | exact HB.out | apply below_alloc | apply pw_below_drewN | apply below_drew1) | exact HB.out)⟩

/-! ### spec_Trim: function 27 -/
def spec_Trim.f (k : Nat) (a0 : ByteArray) : Option (ByteArray) := (spec_cut_IsSpace.f k a0).bind fun t122 => (some t122)
theorem spec_Trim.mono : ∀ a0 k, LeO (spec_Trim.f k a0) (spec_Trim.f (k + 1) a0) := by
  intro a0 k
  unfold spec_Trim.f
  repeat' first
      | (with_reducible exact spec_cut_IsSpace.mono _ _)
      | (with_reducible exact LeO.refl _)
      | (with_reducible exact LeO.none _)
      | (with_reducible refine LeO.ite ?_ ?_)
      | (with_reducible refine LeO.bind ?_ (fun _ => ?_))
      | exact spec_cut_IsSpace.mono _ _
      | exact LeO.none _
      | refine LeO.ite ?_ ?_
      | refine LeO.bind ?_ (fun _ => ?_)
set_option maxHeartbeats 8000000 in
set_option maxRecDepth 100000 in
theorem spec_Trim.calls (k : Nat) (a0 : ByteArray) (r : ByteArray) (w : World) (h : spec_Trim.f k a0 = some r) :
    Calls Tryd.prog 27 #[.string a0] w fun e w' => e = .returned (.string r) ∧ Below w.heap.size w w' := by
  have HB := Aside0.mk (Below.refl w.heap.size w)
  have H : ((spec_cut_IsSpace.f k a0).bind fun t122 => (some t122)) = some r := h
  clear h
  replace H := Option.bind_eq_some_iff.mp H
  obtain ⟨t122, A20, H⟩ := H
  replace H : (some t122) = some r := H
  have A2 := Aside0.mk A20
  clear A20
  obtain rfl := Option.some.inj H
  go_enter Tryd.func27, Tryd.ntmps27
  go_wp2_with (first | ((with_reducible refine gate_callee (f := 47) rfl ?_); refine goesL_ (some 4) rfl rfl Tryd.func47 (by kernel_rfl) rfl #[.string a0, .func (Fn.func 42) #[] #[]] rfl (by (try simp only [List.map_toArray, List.map_cons, List.map_nil]); first | done | rfl | (simp only [List.length_drop, List.length_take]; rfl)) ?_; (with_reducible refine (spec_cut_IsSpace.calls k a0 t122 _ A2.out).mono ?_); rintro e w3 ⟨rfl, hb⟩; refine ⟨_, rfl, ?_⟩; have n0_ := Aside0.mk (below_step (by repeat (first | (with_reducible first | exact HB.out | apply below_alloc | apply pw_below_drewN | apply below_drew1) | exact HB.out)) hb); clear HB; have HB := n0_; clear n0_; (try clear hb); (try clear hb2); (try clear hk); (try clear hi)))
  go_ret
  exact ⟨by first | rfl | (simp [errW_none, errW_some] <;> rfl) | (simp [*, errW_none, errW_some] <;> rfl), by repeat (first | (with_reducible first | exact HB.out | apply below_alloc | apply pw_below_drewN | apply below_drew1) | exact HB.out)⟩

/-! ### spec_Blank: function 8 -/
def spec_Blank.f (k : Nat) (a0 : ByteArray) : Option (Bool) := (spec_Trim.f k a0).bind fun t123 => (some (t123.toList == ([] : List UInt8)))
theorem spec_Blank.mono : ∀ a0 k, LeO (spec_Blank.f k a0) (spec_Blank.f (k + 1) a0) := by
  intro a0 k
  unfold spec_Blank.f
  repeat' first
      | (with_reducible exact spec_Trim.mono _ _)
      | (with_reducible exact LeO.refl _)
      | (with_reducible exact LeO.none _)
      | (with_reducible refine LeO.ite ?_ ?_)
      | (with_reducible refine LeO.bind ?_ (fun _ => ?_))
      | exact spec_Trim.mono _ _
      | exact LeO.none _
      | refine LeO.ite ?_ ?_
      | refine LeO.bind ?_ (fun _ => ?_)
set_option maxHeartbeats 8000000 in
set_option maxRecDepth 100000 in
theorem spec_Blank.calls (k : Nat) (a0 : ByteArray) (r : Bool) (w : World) (h : spec_Blank.f k a0 = some r) :
    Calls Tryd.prog 8 #[.string a0] w fun e w' => e = .returned (.bool r) ∧ Below w.heap.size w w' := by
  have HB := Aside0.mk (Below.refl w.heap.size w)
  have H : ((spec_Trim.f k a0).bind fun t123 => (some (t123.toList == ([] : List UInt8)))) = some r := h
  clear h
  replace H := Option.bind_eq_some_iff.mp H
  obtain ⟨t123, A20, H⟩ := H
  replace H : (some (t123.toList == ([] : List UInt8))) = some r := H
  have A2 := Aside0.mk A20
  clear A20
  obtain rfl := Option.some.inj H
  go_enter Tryd.func8, Tryd.ntmps8
  go_wp2_with (first | ((with_reducible refine gate_callee (f := 27) rfl ?_); refine goesL_ (some 4) rfl rfl Tryd.func27 (by kernel_rfl) rfl #[.string a0] rfl (by (try simp only [List.map_toArray, List.map_cons, List.map_nil]); first | done | rfl | (simp only [List.length_drop, List.length_take]; rfl)) ?_; (with_reducible refine (spec_Trim.calls k a0 t123 _ A2.out).mono ?_); rintro e w3 ⟨rfl, hb⟩; refine ⟨_, rfl, ?_⟩; have n0_ := Aside0.mk (below_step (by repeat (first | (with_reducible first | exact HB.out | apply below_alloc | apply pw_below_drewN | apply below_drew1) | exact HB.out)) hb); clear HB; have HB := n0_; clear n0_; (try clear hb); (try clear hb2); (try clear hk); (try clear hi)))
  go_ret
  exact ⟨by first | rfl | (simp [errW_none, errW_some] <;> rfl) | (simp [*, errW_none, errW_some] <;> rfl), by repeat (first | (with_reducible first | exact HB.out | apply below_alloc | apply pw_below_drewN | apply below_drew1) | exact HB.out)⟩

-- NOT PRINTED: function 71 (unicode_is16)

-- NOT PRINTED: function 72 (unicode_is32)

-- NOT PRINTED: function 60 (unicode_isExcludingLatin)

end Go.Proofs.YtmdehalchdgoeaaDoor.P
