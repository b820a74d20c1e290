-- WRITTEN by xprint.py (a program of this session, over the kit's print) out of the translation. Not trusted: Lean checks it.
import Derived.Test.YtlhijjfbcgconaaGreatDoorZPx0
import Derived.Test.YtlhijjfbcgconaaGreatDoorZPx9
import Derived.Test.YtlhijjfbcgconaaGreatDoorZPx10
import Derived.Test.YtlhijjfbcgconaaGreatDoorZPx4
namespace Go.Proofs.YtlhijjfbcgconaaGreatDoor.P
open Go.RowKit Go.Proofs.YtlhijjfbcgconaaGreatDoorW.PrintWords Go.Proofs.YtlhijjfbcgconaaGreatDoorW.PrintLast Go.Proofs.YtlhijjfbcgconaaGreatDoorW.PrintMore
attribute [local go_sem] max2_int min2_int max_two min_two max_three min_three max_four min_four run_store_float   -- for this text's walks alone
set_option linter.unusedVariables false
set_option linter.unusedSimpArgs false

/-! ### semver_compareSegment: function 83 -/
def semver_compareSegment.f (a0 : Int) (a1 : Int) : Option (Int) := if a0 < a1 then (some (-1)) else (if a0 > a1 then (some 1) else (some 0))
set_option maxHeartbeats 8000000 in
set_option maxRecDepth 100000 in
theorem semver_compareSegment.calls (a0 : Int) (a1 : Int) (r : Int) (w : World) (h : semver_compareSegment.f a0 a1 = some r) :
    Calls Tryz.prog 83 #[.int .u64 a0, .int .u64 a1] w fun e w' => e = .returned (.int .i64 r) ∧ Drawn0 w w' := by
  have H : (if a0 < a1 then (some (-1)) else (if a0 > a1 then (some 1) else (some 0))) = some r := h
  clear h
  by_cases c3 : a0 < a1
  · rw [if_pos c3] at H
    have c3b0 : decide (a0 < a1) = true := decide_eq_true c3
    clear c3
    as_aux_lemma =>
      obtain rfl := Option.some.inj H
      go_enter Tryz.func83, Tryz.ntmps83
      go_wp2
      go_ret
      exact ⟨by first | rfl | (simp only [bytesLe_not]; done) | (simp; done) | (simp [*]; done), by repeat (first | exact Drawn0.refl _ | apply Drawn0.step)⟩
  · rw [if_neg c3] at H
    have c3b0 : decide (a0 < a1) = false := decide_eq_false c3
    clear c3
    by_cases c4 : a0 > a1
    · rw [if_pos c4] at H
      have c4b0 : decide (a1 < a0) = true := decide_eq_true c4
      clear c4
      as_aux_lemma =>
        obtain rfl := Option.some.inj H
        go_enter Tryz.func83, Tryz.ntmps83
        go_wp2
        go_ret
        exact ⟨by first | rfl | (simp only [bytesLe_not]; done) | (simp; done) | (simp [*]; done), by repeat (first | exact Drawn0.refl _ | apply Drawn0.step)⟩
    · rw [if_neg c4] at H
      have c4b0 : decide (a1 < a0) = false := decide_eq_false c4
      clear c4
      as_aux_lemma =>
        obtain rfl := Option.some.inj H
        go_enter Tryz.func83, Tryz.ntmps83
        go_wp2
        go_ret
        exact ⟨by first | rfl | (simp only [bytesLe_not]; done) | (simp; done) | (simp [*]; done), by repeat (first | exact Drawn0.refl _ | apply Drawn0.step)⟩


/-! ### spec_identifiers: function 11 -/
def spec_identifiers.l0 : Nat → ByteArray → List ByteArray → Int → Int → Option (List ByteArray)
  | 0, _, _, _, _ => none
  | k + 1, x0, x3, x4, x5 => if x5 ≤ (x0.size : Int) then (if x5 = (x0.size : Int) then (if 0 ≤ x4 then (if x4 ≤ x5 then (if x3.length < 8796093022208 then (spec_identifiers.l0 k x0 (x3 ++ [x0.extract (x4 : Int).toNat (x5 : Int).toNat]) (wrap64 (x5 + 1)) (wrap64 (x5 + 1))) else (none)) else (none)) else (none)) else (if 0 ≤ x5 then (if x5 < (x0.size : Int) then (if (bt x0 x5) = 46 then (if 0 ≤ x4 then (if x4 ≤ x5 then (if x3.length < 8796093022208 then (spec_identifiers.l0 k x0 (x3 ++ [x0.extract (x4 : Int).toNat (x5 : Int).toNat]) (wrap64 (x5 + 1)) (wrap64 (x5 + 1))) else (none)) else (none)) else (none)) else (spec_identifiers.l0 k x0 x3 x4 (wrap64 (x5 + 1)))) else (none)) else (none))) else (some x3)
def spec_identifiers.f (k : Nat) (a0 : ByteArray) : Option (List ByteArray) := spec_identifiers.l0 k a0 ([] : List ByteArray) 0 0
theorem spec_identifiers.mono_l : ∀ k, (∀ y0 y1 y2 y3, LeO (spec_identifiers.l0 k y0 y1 y2 y3) (spec_identifiers.l0 (k + 1) y0 y1 y2 y3))
  | 0 => fun _ _ _ _ r h => by simp [spec_identifiers.l0] at h
  | k + 1 => by
    have ih0 := spec_identifiers.mono_l k
    · intro y0 y1 y2 y3
      unfold spec_identifiers.l0
      repeat' first
      | (with_reducible exact ih0 _ _ _ _)
      | (with_reducible exact LeO.refl _)
      | (with_reducible exact LeO.none _)
      | (with_reducible refine LeO.ite ?_ ?_)
      | (with_reducible refine LeO.bind ?_ (fun _ => ?_))
      | exact ih0 _ _ _ _
      | exact LeO.none _
      | refine LeO.ite ?_ ?_
      | refine LeO.bind ?_ (fun _ => ?_)
theorem spec_identifiers.mono : ∀ a0 k, LeO (spec_identifiers.f k a0) (spec_identifiers.f (k + 1) a0) := by
  intro a0 k
  have ih0 := spec_identifiers.mono_l k
  unfold spec_identifiers.f
  repeat' first
      | (with_reducible exact ih0 _ _ _ _)
      | (with_reducible exact LeO.refl _)
      | (with_reducible exact LeO.none _)
      | (with_reducible refine LeO.ite ?_ ?_)
      | (with_reducible refine LeO.bind ?_ (fun _ => ?_))
      | exact ih0 _ _ _ _
      | exact LeO.none _
      | refine LeO.ite ?_ ?_
      | refine LeO.bind ?_ (fun _ => ?_)
set_option maxHeartbeats 8000000 in
set_option maxRecDepth 100000 in
theorem spec_identifiers.calls (k : Nat) (a0 : ByteArray) (r : List ByteArray) (w : World) (h : spec_identifiers.f k a0 = some r) :
    Calls Tryz.prog 11 #[.string a0] w fun e w' => ∃ v0_ : Value, e = .returned (v0_) ∧ Kd.R Kd.string 9 w' w.heap.size (fun _ => True) v0_ r ∧ Below w.heap.size w w' := by
  have HB := Aside0.mk (Below.refl w.heap.size w)
  have H : (spec_identifiers.l0 k a0 ([] : List ByteArray) 0 0) = some r := h
  clear h
  have H' := Aside0.mk H
  clear H
  go_enter Tryz.func11, Tryz.ntmps11
  go_wp2
  go_loopg [3, 4, 5] k (fun kq v3 v4 v5 w' => ∃ (x3_1 : List ByteArray) (x4_1 : Int) (x5_1 : Int), v4 = .int .i64 x4_1 ∧ v5 = .int .i64 x5_1 ∧ Aside0 (spec_identifiers.l0 kq a0 x3_1 x4_1 x5_1 = some r) ∧ Aside0 (kq ≤ k) ∧ Aside0 (Kd.R Kd.string 9 w' w.heap.size (fun _ => True) v3 x3_1) ∧ Aside0 (Below w.heap.size w w'))
  case atStart => exact ⟨(([] : List ByteArray)), (0), (0), (by first | rfl | (simp only [bytesLe_not]; done) | (simp; done) | (simp [*]; done)), (by first | rfl | (simp only [bytesLe_not]; done) | (simp; done) | (simp [*]; done)), H', ⟨Nat.le_refl _⟩, ⟨by first | exact Kd.R_nil _ _ _ _ _ | exact Kd.N_nil _ _ _ _ _ | exact Kd.V_nil _ _ _ _ _ | exact Kd.Q_nil _ _ _ _ _ | exact Kd.S_nil _ _ _ _ _⟩, ⟨by repeat (first | (with_reducible first | exact HB.out | apply below_alloc | apply pw_below_drewN | apply below_drew1) | exact HB.out)⟩⟩
  case round =>
    clear H'
    try clear c1
    obtain ⟨x3_1, x4_1, x5_1, rfl, rfl, HA, HK1, HO_3, HB⟩ := hrel
    cases gk with
    | zero => exact absurd HA.out (by simp [spec_identifiers.l0])
    | succ k1 =>
      have H := HA.out
      clear HA
      simp only [spec_identifiers.l0] at H
      by_cases c2 : x5_1 ≤ (a0.size : Int)
      · rw [if_pos c2] at H
        have c2b0 : decide (x5_1 ≤ (a0.size : Int)) = true := decide_eq_true c2
        clear c2
        by_cases c3 : x5_1 = (a0.size : Int)
        · rw [if_pos c3] at H
          have c3b0 : (x5_1 == (a0.size : Int)) = true := beq_iff_eq.mpr c3
          have c3b1 : (x5_1 != (a0.size : Int)) = false := bne_eq_false_iff_eq.mpr c3
          clear c3
          by_cases c4 : 0 ≤ x4_1
          · rw [if_pos c4] at H
            have c4b0 := eq_true c4
            have c4b1 : decide (0 ≤ x4_1) = true := decide_eq_true c4
            clear c4
            by_cases c5 : x4_1 ≤ x5_1
            · rw [if_pos c5] at H
              have c5b0 := eq_true c5
              have c5b1 : decide (x4_1 ≤ x5_1) = true := decide_eq_true c5
              clear c5
              have c6b0 := eq_true (of_decide_eq_true (by first | (with_reducible assumption) | assumption) : x5_1 ≤ (a0.size : Int))
              by_cases c7 : x3_1.length < 8796093022208
              · rw [if_pos c7] at H
                have LMc7 := Aside0.mk c7
                clear c7
                obtain ⟨y114, hy114⟩ : ∃ y_ : List ByteArray, y_ = (x3_1 ++ [a0.extract (x4_1 : Int).toNat (x5_1 : Int).toNat]) := ⟨_, rfl⟩
                replace H : (spec_identifiers.l0 k1 a0 y114 (wrap64 (x5_1 + 1)) (wrap64 (x5_1 + 1))) = some r := by first | (rw [hy114]; with_reducible exact H) | (have H2_ := (Option.bind_some _ _).symm.trans H; rw [hy114]; with_reducible exact H2_) | (have H2_ := (Option.bind_some _ _).symm.trans H; with_reducible exact H2_) | with_reducible exact H | (rw [hy114]; exact H) | exact H
                have Ny114 := Aside0.mk hy114
                clear hy114
                as_aux_lemma =>
                  have H' := Aside0.mk H
                  clear H
                  go_wp2_with (first | ((with_reducible refine gate_builtin (b := .append) (xs := #[.tmp 22, .tmp 27]) rfl ?_); at_builtin; refine Kd.R_append Kd.string (w0 := w) w.heap.size rfl (.tmp 22) (.tmp 27) 28 9 (.string ⟨#[]⟩) 16 rfl Tryz.underlying28 info9 rfl (by decide) (by omega) u3 x3_1 (a0.extract (x4_1 : Int).toNat (x5_1 : Int).toNat) [.string (a0.extract (x4_1 : Int).toNat (x5_1 : Int).toNat)] (fun _ => True) (fun _ => False) rfl rfl ?aP (fun _ hk => hk.elim) ?aF ?aO ?aB ?aS ?aL ?_; (case aP => exact rfl); (case aB => exact (by repeat (first | (with_reducible first | exact HB.out | apply below_alloc | apply pw_below_drewN | apply below_drew1) | exact HB.out))); (case aF => exact (fun _ _ => trivial)); (case aO => exact (by (with_reducible repeat (first | apply Kd.R_alloc | apply Kd.R_drewN | apply Kd.R_drew)); exact HO_3.out)); (case aS => exact (below_size (by repeat (first | (with_reducible first | exact HB.out | apply below_alloc | apply pw_below_drewN | apply below_drew1) | exact HB.out)))); (case aL => have := LMc7.out; omega); intro v115 w8 ho hb hg hat; rw [← Ny114.out] at ho; have n0_ := Aside0.mk (hb); have n1_ := Aside0.mk (ho); clear HB; clear HO_3; have HB := n0_; have HO116 := n1_; clear n0_ n1_; clear ho hb hg hat))
                  go_roundg k1
                  case measure => have := HK1.out; omega
                  case rel => exact ⟨(y114), (wrap64 (x5_1 + 1)), (wrap64 (x5_1 + 1)), (by first | rfl | (simp only [bytesLe_not]; done) | (simp; done) | (simp [*]; done)), (by first | rfl | (simp only [bytesLe_not]; done) | (simp; done) | (simp [*]; done)), H', ⟨by have := HK1.out; omega⟩, ⟨by (with_reducible repeat (first | apply Kd.R_alloc | apply Kd.R_drewN | apply Kd.R_drew)); exact HO116.out⟩, ⟨by repeat (first | (with_reducible first | exact HB.out | apply below_alloc | apply pw_below_drewN | apply below_drew1) | exact HB.out)⟩⟩
              · rw [if_neg c7] at H
                exact absurd H (by simp)
            · rw [if_neg c5] at H
              exact absurd H (by simp)
          · rw [if_neg c4] at H
            exact absurd H (by simp)
        · rw [if_neg c3] at H
          have c3b0 : (x5_1 == (a0.size : Int)) = false := beq_eq_false_iff_ne.mpr c3
          have c3b1 : (x5_1 != (a0.size : Int)) = true := bne_iff_ne.mpr c3
          by_cases c9 : 0 ≤ x5_1
          · rw [if_pos c9] at H
            have c9b0 : decide (0 ≤ x5_1) = true := decide_eq_true c9
            clear c9
            by_cases c10 : x5_1 < (a0.size : Int)
            · rw [if_pos c10] at H
              have c10b0 : decide (x5_1 < (a0.size : Int)) = true := decide_eq_true c10
              clear c10
              by_cases c12 : (bt a0 x5_1) = 46
              · rw [if_pos c12] at H
                have c12b0 : ((bt a0 x5_1) == 46) = true := beq_iff_eq.mpr c12
                have c12b1 : ((bt a0 x5_1) != 46) = false := bne_eq_false_iff_eq.mpr c12
                clear c12
                by_cases c13 : 0 ≤ x4_1
                · rw [if_pos c13] at H
                  have c13b0 := eq_true c13
                  have c13b1 : decide (0 ≤ x4_1) = true := decide_eq_true c13
                  clear c13
                  by_cases c14 : x4_1 ≤ x5_1
                  · rw [if_pos c14] at H
                    have c14b0 := eq_true c14
                    have c14b1 : decide (x4_1 ≤ x5_1) = true := decide_eq_true c14
                    clear c14
                    have c15b0 := eq_true (of_decide_eq_true (by first | (with_reducible assumption) | assumption) : x5_1 ≤ (a0.size : Int))
                    by_cases c16 : x3_1.length < 8796093022208
                    · rw [if_pos c16] at H
                      have LMc16 := Aside0.mk c16
                      clear c16
                      obtain ⟨y117, hy117⟩ : ∃ y_ : List ByteArray, y_ = (x3_1 ++ [a0.extract (x4_1 : Int).toNat (x5_1 : Int).toNat]) := ⟨_, rfl⟩
                      replace H : (spec_identifiers.l0 k1 a0 y117 (wrap64 (x5_1 + 1)) (wrap64 (x5_1 + 1))) = some r := by first | (rw [hy117]; with_reducible exact H) | (have H2_ := (Option.bind_some _ _).symm.trans H; rw [hy117]; with_reducible exact H2_) | (have H2_ := (Option.bind_some _ _).symm.trans H; with_reducible exact H2_) | with_reducible exact H | (rw [hy117]; exact H) | exact H
                      have Ny117 := Aside0.mk hy117
                      clear hy117
                      as_aux_lemma =>
                        have H' := Aside0.mk H
                        clear H
                        have p11 : 0 ≤ (x5_1 : Int) := of_decide_eq_true (by first | (with_reducible assumption) | assumption)
                        have q11 : x5_1 < (a0.size : Int) := of_decide_eq_true (by first | (with_reducible assumption) | assumption)
                        have hx11 := bt_at a0 x5_1
                        replace p11 := eq_true p11
                        replace q11 := eq_true q11
                        go_wp2_with (first | ((with_reducible refine gate_builtin (b := .append) (xs := #[.tmp 22, .tmp 27]) rfl ?_); at_builtin; refine Kd.R_append Kd.string (w0 := w) w.heap.size rfl (.tmp 22) (.tmp 27) 28 9 (.string ⟨#[]⟩) 16 rfl Tryz.underlying28 info9 rfl (by decide) (by omega) u3 x3_1 (a0.extract (x4_1 : Int).toNat (x5_1 : Int).toNat) [.string (a0.extract (x4_1 : Int).toNat (x5_1 : Int).toNat)] (fun _ => True) (fun _ => False) rfl rfl ?aP (fun _ hk => hk.elim) ?aF ?aO ?aB ?aS ?aL ?_; (case aP => exact rfl); (case aB => exact (by repeat (first | (with_reducible first | exact HB.out | apply below_alloc | apply pw_below_drewN | apply below_drew1) | exact HB.out))); (case aF => exact (fun _ _ => trivial)); (case aO => exact (by (with_reducible repeat (first | apply Kd.R_alloc | apply Kd.R_drewN | apply Kd.R_drew)); exact HO_3.out)); (case aS => exact (below_size (by repeat (first | (with_reducible first | exact HB.out | apply below_alloc | apply pw_below_drewN | apply below_drew1) | exact HB.out)))); (case aL => have := LMc16.out; omega); intro v118 w17 ho hb hg hat; rw [← Ny117.out] at ho; have n0_ := Aside0.mk (hb); have n1_ := Aside0.mk (ho); clear HB; clear HO_3; have HB := n0_; have HO119 := n1_; clear n0_ n1_; clear ho hb hg hat))
                        go_roundg k1
                        case measure => have := HK1.out; omega
                        case rel => exact ⟨(y117), (wrap64 (x5_1 + 1)), (wrap64 (x5_1 + 1)), (by first | rfl | (simp only [bytesLe_not]; done) | (simp; done) | (simp [*]; done)), (by first | rfl | (simp only [bytesLe_not]; done) | (simp; done) | (simp [*]; done)), H', ⟨by have := HK1.out; omega⟩, ⟨by (with_reducible repeat (first | apply Kd.R_alloc | apply Kd.R_drewN | apply Kd.R_drew)); exact HO119.out⟩, ⟨by repeat (first | (with_reducible first | exact HB.out | apply below_alloc | apply pw_below_drewN | apply below_drew1) | exact HB.out)⟩⟩
                    · rw [if_neg c16] at H
                      exact absurd H (by simp)
                  · rw [if_neg c14] at H
                    exact absurd H (by simp)
                · rw [if_neg c13] at H
                  exact absurd H (by simp)
              · rw [if_neg c12] at H
                have c12b0 : ((bt a0 x5_1) == 46) = false := beq_eq_false_iff_ne.mpr c12
                have c12b1 : ((bt a0 x5_1) != 46) = true := bne_iff_ne.mpr c12
                as_aux_lemma =>
                  have H' := Aside0.mk H
                  clear H
                  have p11 : 0 ≤ (x5_1 : Int) := of_decide_eq_true (by first | (with_reducible assumption) | assumption)
                  have q11 : x5_1 < (a0.size : Int) := of_decide_eq_true (by first | (with_reducible assumption) | assumption)
                  have hx11 := bt_at a0 x5_1
                  replace p11 := eq_true p11
                  replace q11 := eq_true q11
                  go_wp2
                  go_roundg k1
                  case measure => have := HK1.out; omega
                  case rel => exact ⟨(x3_1), (x4_1), (wrap64 (x5_1 + 1)), (by first | rfl | (simp only [bytesLe_not]; done) | (simp; done) | (simp [*]; done)), (by first | rfl | (simp only [bytesLe_not]; done) | (simp; done) | (simp [*]; done)), H', ⟨by have := HK1.out; omega⟩, ⟨by (with_reducible repeat (first | apply Kd.R_alloc | apply Kd.R_drewN | apply Kd.R_drew)); exact HO_3.out⟩, ⟨by repeat (first | (with_reducible first | exact HB.out | apply below_alloc | apply pw_below_drewN | apply below_drew1) | exact HB.out)⟩⟩
            · rw [if_neg c10] at H
              exact absurd H (by simp)
          · rw [if_neg c9] at H
            exact absurd H (by simp)
      · rw [if_neg c2] at H
        have c2b0 : decide (x5_1 ≤ (a0.size : Int)) = false := decide_eq_false c2
        clear c2
        as_aux_lemma =>
          obtain rfl := Option.some.inj H
          go_wp2
          go_ret
          exact ⟨_, by first | rfl | (simp [errW_none, errW_some] <;> rfl) | (simp [*, errW_none, errW_some] <;> rfl), by (with_reducible repeat (first | apply Kd.R_alloc | apply Kd.R_drewN | apply Kd.R_drew)); exact HO_3.out, by repeat (first | (with_reducible first | exact HB.out | apply below_alloc | apply pw_below_drewN | apply below_drew1) | exact HB.out)⟩


/-! ### spec_Short: function 9 -/
def spec_Short.l0 : Nat → List ByteArray → Int → Option (Bool)
  | 0, _, _ => none
  | k + 1, x3, x4 => if x4 < (x3.length : Int) then (if 0 ≤ x4 then ((spec_onlyDigits.f k (rdOf ByteArray.empty x3 x4)).bind fun t125 => (if t125 = true then (if ((rdOf ByteArray.empty x3 x4).size : Int) > 15 then (some false) else (spec_Short.l0 k x3 (wrap64 (x4 + 1)))) else (spec_Short.l0 k x3 (wrap64 (x4 + 1))))) else (none)) else (some true)
def spec_Short.f (k : Nat) (a0_0 : Int) (a0_1 : Int) (a0_2 : Int) (a0_3 : ByteArray) (a0_4 : ByteArray) : Option (Bool) := (spec_identifiers.f k a0_3).bind fun t121 => (spec_Short.l0 k t121 0)
theorem spec_Short.mono_l : ∀ k, (∀ y0 y1, LeO (spec_Short.l0 k y0 y1) (spec_Short.l0 (k + 1) y0 y1))
  | 0 => fun _ _ r h => by simp [spec_Short.l0] at h
  | k + 1 => by
    have ih0 := spec_Short.mono_l k
    · intro y0 y1
      unfold spec_Short.l0
      repeat' first
      | (with_reducible exact ih0 _ _)
      | (with_reducible exact spec_identifiers.mono _ _)
      | (with_reducible exact spec_onlyDigits.mono _ _)
      | (with_reducible exact LeO.refl _)
      | (with_reducible exact LeO.none _)
      | (with_reducible refine LeO.ite ?_ ?_)
      | (with_reducible refine LeO.bind ?_ (fun _ => ?_))
      | exact ih0 _ _
      | exact spec_identifiers.mono _ _
      | exact spec_onlyDigits.mono _ _
      | exact LeO.none _
      | refine LeO.ite ?_ ?_
      | refine LeO.bind ?_ (fun _ => ?_)
theorem spec_Short.mono : ∀ a0 a1 a2 a3 a4 k, LeO (spec_Short.f k a0 a1 a2 a3 a4) (spec_Short.f (k + 1) a0 a1 a2 a3 a4) := by
  intro a0 a1 a2 a3 a4 k
  have ih0 := spec_Short.mono_l k
  unfold spec_Short.f
  repeat' first
      | (with_reducible exact ih0 _ _)
      | (with_reducible exact spec_identifiers.mono _ _)
      | (with_reducible exact spec_onlyDigits.mono _ _)
      | (with_reducible exact LeO.refl _)
      | (with_reducible exact LeO.none _)
      | (with_reducible refine LeO.ite ?_ ?_)
      | (with_reducible refine LeO.bind ?_ (fun _ => ?_))
      | exact ih0 _ _
      | exact spec_identifiers.mono _ _
      | exact spec_onlyDigits.mono _ _
      | exact LeO.none _
      | refine LeO.ite ?_ ?_
      | refine LeO.bind ?_ (fun _ => ?_)
set_option maxHeartbeats 8000000 in
set_option maxRecDepth 100000 in
theorem spec_Short.calls (k : Nat) (a0_0 : Int) (a0_1 : Int) (a0_2 : Int) (a0_3 : ByteArray) (a0_4 : ByteArray) (r : Bool) (w : World) (h : spec_Short.f k a0_0 a0_1 a0_2 a0_3 a0_4 = some r) :
    Calls Tryz.prog 9 #[.agg #[.int .u64 a0_0, .int .u64 a0_1, .int .u64 a0_2, .string a0_3, .string a0_4]] w fun e w' => e = .returned (.bool r) ∧ Below w.heap.size w w' := by
  have hu24 := Tryz.underlying24
  have HB := Aside0.mk (Below.refl w.heap.size w)
  have H : ((spec_identifiers.f k a0_3).bind fun t121 => (spec_Short.l0 k t121 0)) = some r := h
  clear h
  replace H := Option.bind_eq_some_iff.mp H
  obtain ⟨t121, A20, H⟩ := H
  replace H : (spec_Short.l0 k t121 0) = some r := H
  have A2 := Aside0.mk A20
  clear A20
  have H' := Aside0.mk H
  clear H
  go_enter Tryz.func9, Tryz.ntmps9
  go_wp2_with (first | ((with_reducible refine gate_dst (N := 1) rfl ?_); (try (refine gate_guard (by rfl) ?_; dsimp only)); refine box_event ?hg (N := 1) ?hd (cs := #[.int .u64 a0_0, .int .u64 a0_1, .int .u64 a0_2, .string a0_3, .string a0_4]) (t := 24) ?hr ?_; (case hd => rfl); (case hg => rfl); (case hr => first | (go_simp; done) | (go_simp; rfl)); intro gb120 hg w3 hbox hb; have n0_ := Aside0.mk (below_step (by repeat (first | (with_reducible first | exact HB.out | apply below_alloc | apply pw_below_drewN | apply below_drew1) | exact HB.out)) hb); have n1_ := Aside0.mk (hbox); have n2_ := Aside0.mk ((by rw [hg]; exact (below_size (by repeat (first | (with_reducible first | exact HB.out | apply below_alloc | apply pw_below_drewN | apply below_drew1) | exact HB.out))) : w.heap.size ≤ gb120)); have n3_ := Aside0.mk ((by rw [hg]; exact (below_size (by repeat (first | (with_reducible first | exact HB.out | apply below_alloc | apply pw_below_drewN | apply below_drew1) | exact HB.out))) : w.heap.size ≤ gb120)); clear HB; have HB := n0_; have BK120 := n1_; have GW120 := n2_; have GE120 := n3_; clear n0_ n1_ n2_ n3_; clear hb hbox hg; have hcz4_0 : w3.cell? ⟨gb120, 0, none⟩ = some (.int .u64 a0_0) := (blk_cell BK120.out 0).trans rfl; have hcz4_1 : w3.cell? ⟨gb120, 1, none⟩ = some (.int .u64 a0_1) := (blk_cell BK120.out 1).trans rfl; have hcz4_2 : w3.cell? ⟨gb120, 2, none⟩ = some (.int .u64 a0_2) := (blk_cell BK120.out 2).trans rfl; have hcz4_3 : w3.cell? ⟨gb120, 3, none⟩ = some (.string a0_3) := (blk_cell BK120.out 3).trans rfl; have hcz4_4 : w3.cell? ⟨gb120, 4, none⟩ = some (.string a0_4) := (blk_cell BK120.out 4).trans rfl; have hfz4_0 := blk_frozen BK120.out 0; have hfz4_1 := blk_frozen BK120.out 1; have hfz4_2 := blk_frozen BK120.out 2; have hfz4_3 := blk_frozen BK120.out 3; have hfz4_4 := blk_frozen BK120.out 4) | ((with_reducible refine gate_callee (f := 11) rfl ?_); refine goesL_ (some 7) rfl rfl Tryz.func11 (by kernel_rfl) rfl #[.string a0_3] rfl (by (try simp only [List.map_toArray, List.map_cons, List.map_nil]); first | done | rfl | (simp only [List.length_drop, List.length_take]; rfl)) ?_; (with_reducible refine (spec_identifiers.calls k a0_3 t121 _ A2.out).mono ?_); rintro e w5 ⟨v122, rfl, ho0, hb⟩; refine ⟨_, rfl, ?_⟩; have n0_ := Aside0.mk (Kd.R_lower ho0 (below_size (by repeat (first | (with_reducible first | exact HB.out | apply below_alloc | apply pw_below_drewN | apply below_drew1 | refine below_set ?_ GE120.out) | exact HB.out)))); have n1_ := Aside0.mk (blk_below (g := gb120) (o := .cells #[.int .u64 a0_0, .int .u64 a0_1, .int .u64 a0_2, .string a0_3, .string a0_4] 24 (0, 0)) (by (with_reducible repeat (first | refine blk_drewN ?_ _ | refine blk_drew ?_ | refine blk_alloc ?_ _)); exact BK120.out) hb); have n2_ := Aside0.mk (below_step (by repeat (first | (with_reducible first | exact HB.out | apply below_alloc | apply pw_below_drewN | apply below_drew1 | refine below_set ?_ GE120.out) | exact HB.out)) hb); clear BK120; clear HB; have HO123 := n0_; have BK120 := n1_; have HB := n2_; clear n0_ n1_ n2_; (try clear hb); (try clear hb2); (try clear hk); (try clear hi); (try clear ho0)))
  go_loopg [4] k (fun kq v4 w' => ∃ (x4_1 : Int), v4 = .int .i64 x4_1 ∧ Aside0 (spec_Short.l0 kq t121 x4_1 = some r) ∧ Aside0 (kq ≤ k) ∧ Aside0 (Kd.R Kd.string 9 w' w.heap.size (fun _ => True) v122 t121) ∧ Aside0 (w'.heap[gb120]? = some (.cells #[.int .u64 a0_0, .int .u64 a0_1, .int .u64 a0_2, .string a0_3, .string a0_4] 24 (0, 0))) ∧ Aside0 (Below w.heap.size w w'))
  case atStart => exact ⟨(0), (by first | rfl | (simp only [bytesLe_not]; done) | (simp; done) | (simp [*]; done)), H', ⟨Nat.le_refl _⟩, ⟨by (with_reducible repeat (first | apply Kd.R_alloc | apply Kd.R_drewN | apply Kd.R_drew)); exact HO123.out⟩, ⟨by (with_reducible repeat (first | refine blk_drewN ?_ _ | refine blk_drew ?_ | refine blk_alloc ?_ _)); exact BK120.out⟩, ⟨by repeat (first | (with_reducible first | exact HB.out | apply below_alloc | apply pw_below_drewN | apply below_drew1 | refine below_set ?_ GE120.out) | exact HB.out)⟩⟩
  case round =>
    clear H'
    try clear c1
    try clear p2
    try clear hcz4_0
    try clear hcz4_1
    try clear hcz4_2
    try clear hcz4_3
    try clear hcz4_4
    try clear hfz4_0
    try clear hfz4_1
    try clear hfz4_2
    try clear hfz4_3
    try clear hfz4_4
    obtain ⟨x4_1, rfl, HA, HK1, HO_3, BK120, HB⟩ := hrel
    cases gk with
    | zero => exact absurd HA.out (by simp [spec_Short.l0])
    | succ k1 =>
      have H := HA.out
      clear HA
      simp only [spec_Short.l0] at H
      by_cases c6 : x4_1 < (t121.length : Int)
      · rw [if_pos c6] at H
        have c6b0 : decide (x4_1 < (t121.length : Int)) = true := decide_eq_true c6
        clear c6
        by_cases c7 : 0 ≤ x4_1
        · rw [if_pos c7] at H
          have c7b0 : decide (0 ≤ x4_1) = true := decide_eq_true c7
          clear c7
          replace H := Option.bind_eq_some_iff.mp H
          obtain ⟨t125, A80, H⟩ := H
          replace H : (if t125 = true then (if ((rdOf ByteArray.empty t121 x4_1).size : Int) > 15 then (some false) else (spec_Short.l0 k1 t121 (wrap64 (x4_1 + 1)))) else (spec_Short.l0 k1 t121 (wrap64 (x4_1 + 1)))) = some r := H
          have A8 := Aside0.mk A80
          clear A80
          by_cases c9 : t125 = true
          · subst c9
            have H1 : (if ((rdOf ByteArray.empty t121 x4_1).size : Int) > 15 then (some false) else (spec_Short.l0 k1 t121 (wrap64 (x4_1 + 1)))) = some r := by rw [if_pos rfl] at H; exact H
            clear H
            have H := H1
            clear H1
            by_cases c10 : ((rdOf ByteArray.empty t121 x4_1).size : Int) > 15
            · rw [if_pos c10] at H
              have c10b0 : decide (15 < ((rdOf ByteArray.empty t121 x4_1).size : Int)) = true := decide_eq_true c10
              have c10b1 : decide (15 < (rdOf ByteArray.empty t121 x4_1).size) = true := decide_eq_true (by omega)
              clear c10
              as_aux_lemma =>
                obtain rfl := Option.some.inj H
                obtain ⟨Ao11, co11, eo11⟩ := Kd.R_slice HO_3.out
                subst eo11
                have p124 : 0 ≤ (x4_1 : Int) := of_decide_eq_true (by first | (with_reducible assumption) | assumption)
                have q124 : x4_1 < (t121.length : Int) := of_decide_eq_true (by first | (with_reducible assumption) | assumption)
                obtain ⟨ad124, e124, hx124_0⟩ := Kd.at_string (Kd.R_reads' HO_3.out).2.2 x4_1 p124 q124
                cases e124
                replace p124 := eq_true p124
                replace q124 := eq_true q124
                go_wp2_with (first | ((with_reducible refine gate_callee (f := 17) rfl ?_); refine goesL_ (some 18) rfl rfl Tryz.func17 (by kernel_rfl) rfl #[.string (rdOf ByteArray.empty t121 x4_1)] rfl (by (try simp only [List.map_toArray, List.map_cons, List.map_nil]); first | done | rfl | (simp only [List.length_drop, List.length_take]; rfl)) ?_; (with_reducible refine (spec_onlyDigits.calls k1 (rdOf ByteArray.empty t121 x4_1) true _ A8.out).mono ?_); rintro e w' ⟨rfl, ⟨nd, rfl⟩⟩; refine ⟨_, rfl, ?_⟩; have p126 : 0 ≤ (x4_1 : Int) := of_decide_eq_true (by first | (with_reducible assumption) | assumption); have q126 : x4_1 < (t121.length : Int) := of_decide_eq_true (by first | (with_reducible assumption) | assumption); obtain ⟨ad126, e126, hx126_0⟩ := Kd.at_string (Kd.R_reads' HO_3.out).2.2 x4_1 p126 q126; obtain rfl : ad124 = ad126 := (by injection e126); replace p126 := eq_true p126; replace q126 := eq_true q126))
                go_ret
                exact ⟨by first | rfl | (simp [errW_none, errW_some] <;> rfl) | (simp [*, errW_none, errW_some] <;> rfl), by repeat (first | (with_reducible first | exact HB.out | apply below_alloc | apply pw_below_drewN | apply below_drew1 | refine below_set ?_ GE120.out) | exact HB.out)⟩
            · rw [if_neg c10] at H
              have c10b0 : decide (15 < ((rdOf ByteArray.empty t121 x4_1).size : Int)) = false := decide_eq_false c10
              have c10b1 : decide (15 < (rdOf ByteArray.empty t121 x4_1).size) = false := decide_eq_false (by omega)
              clear c10
              as_aux_lemma =>
                have H' := Aside0.mk H
                clear H
                obtain ⟨Ao12, co12, eo12⟩ := Kd.R_slice HO_3.out
                subst eo12
                have p124 : 0 ≤ (x4_1 : Int) := of_decide_eq_true (by first | (with_reducible assumption) | assumption)
                have q124 : x4_1 < (t121.length : Int) := of_decide_eq_true (by first | (with_reducible assumption) | assumption)
                obtain ⟨ad124, e124, hx124_0⟩ := Kd.at_string (Kd.R_reads' HO_3.out).2.2 x4_1 p124 q124
                cases e124
                replace p124 := eq_true p124
                replace q124 := eq_true q124
                go_wp2_with (first | ((with_reducible refine gate_callee (f := 17) rfl ?_); refine goesL_ (some 18) rfl rfl Tryz.func17 (by kernel_rfl) rfl #[.string (rdOf ByteArray.empty t121 x4_1)] rfl (by (try simp only [List.map_toArray, List.map_cons, List.map_nil]); first | done | rfl | (simp only [List.length_drop, List.length_take]; rfl)) ?_; (with_reducible refine (spec_onlyDigits.calls k1 (rdOf ByteArray.empty t121 x4_1) true _ A8.out).mono ?_); rintro e w' ⟨rfl, ⟨nd, rfl⟩⟩; refine ⟨_, rfl, ?_⟩; have p126 : 0 ≤ (x4_1 : Int) := of_decide_eq_true (by first | (with_reducible assumption) | assumption); have q126 : x4_1 < (t121.length : Int) := of_decide_eq_true (by first | (with_reducible assumption) | assumption); obtain ⟨ad126, e126, hx126_0⟩ := Kd.at_string (Kd.R_reads' HO_3.out).2.2 x4_1 p126 q126; obtain rfl : ad124 = ad126 := (by injection e126); replace p126 := eq_true p126; replace q126 := eq_true q126))
                go_roundg k1
                case measure => have := HK1.out; omega
                case rel => exact ⟨(wrap64 (x4_1 + 1)), (by first | rfl | (simp only [bytesLe_not]; done) | (simp; done) | (simp [*]; done)), H', ⟨by have := HK1.out; omega⟩, ⟨by (with_reducible repeat (first | apply Kd.R_alloc | apply Kd.R_drewN | apply Kd.R_drew)); exact HO_3.out⟩, ⟨by (with_reducible repeat (first | refine blk_drewN ?_ _ | refine blk_drew ?_ | refine blk_alloc ?_ _)); exact BK120.out⟩, ⟨by repeat (first | (with_reducible first | exact HB.out | apply below_alloc | apply pw_below_drewN | apply below_drew1 | refine below_set ?_ GE120.out) | exact HB.out)⟩⟩
          · replace c9 := Bool.eq_false_iff.mpr c9
            subst c9
            have H1 : (spec_Short.l0 k1 t121 (wrap64 (x4_1 + 1))) = some r := by rw [if_neg (show ¬ (false = true) by decide)] at H; exact H
            clear H
            have H := H1
            clear H1
            as_aux_lemma =>
              have H' := Aside0.mk H
              clear H
              obtain ⟨Ao13, co13, eo13⟩ := Kd.R_slice HO_3.out
              subst eo13
              have p124 : 0 ≤ (x4_1 : Int) := of_decide_eq_true (by first | (with_reducible assumption) | assumption)
              have q124 : x4_1 < (t121.length : Int) := of_decide_eq_true (by first | (with_reducible assumption) | assumption)
              obtain ⟨ad124, e124, hx124_0⟩ := Kd.at_string (Kd.R_reads' HO_3.out).2.2 x4_1 p124 q124
              cases e124
              replace p124 := eq_true p124
              replace q124 := eq_true q124
              go_wp2_with (first | ((with_reducible refine gate_callee (f := 17) rfl ?_); refine goesL_ (some 18) rfl rfl Tryz.func17 (by kernel_rfl) rfl #[.string (rdOf ByteArray.empty t121 x4_1)] rfl (by (try simp only [List.map_toArray, List.map_cons, List.map_nil]); first | done | rfl | (simp only [List.length_drop, List.length_take]; rfl)) ?_; (with_reducible refine (spec_onlyDigits.calls k1 (rdOf ByteArray.empty t121 x4_1) false _ A8.out).mono ?_); rintro e w' ⟨rfl, ⟨nd, rfl⟩⟩; refine ⟨_, rfl, ?_⟩))
              go_roundg k1
              case measure => have := HK1.out; omega
              case rel => exact ⟨(wrap64 (x4_1 + 1)), (by first | rfl | (simp only [bytesLe_not]; done) | (simp; done) | (simp [*]; done)), H', ⟨by have := HK1.out; omega⟩, ⟨by (with_reducible repeat (first | apply Kd.R_alloc | apply Kd.R_drewN | apply Kd.R_drew)); exact HO_3.out⟩, ⟨by (with_reducible repeat (first | refine blk_drewN ?_ _ | refine blk_drew ?_ | refine blk_alloc ?_ _)); exact BK120.out⟩, ⟨by repeat (first | (with_reducible first | exact HB.out | apply below_alloc | apply pw_below_drewN | apply below_drew1 | refine below_set ?_ GE120.out) | exact HB.out)⟩⟩
        · rw [if_neg c7] at H
          exact absurd H (by simp)
      · rw [if_neg c6] at H
        have c6b0 : decide (x4_1 < (t121.length : Int)) = false := decide_eq_false c6
        clear c6
        as_aux_lemma =>
          obtain rfl := Option.some.inj H
          obtain ⟨Ao14, co14, eo14⟩ := Kd.R_slice HO_3.out
          subst eo14
          go_wp2
          go_ret
          exact ⟨by first | rfl | (simp [errW_none, errW_some] <;> rfl) | (simp [*, errW_none, errW_some] <;> rfl), by repeat (first | (with_reducible first | exact HB.out | apply below_alloc | apply pw_below_drewN | apply below_drew1 | refine below_set ?_ GE120.out) | exact HB.out)⟩

end Go.Proofs.YtlhijjfbcgconaaGreatDoor.P

