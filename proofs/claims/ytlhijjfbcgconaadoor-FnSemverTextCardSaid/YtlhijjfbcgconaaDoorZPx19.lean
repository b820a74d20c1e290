-- WRITTEN by xprint.py (a program of this session, over the kit's print) out of the translation. Not trusted: Lean checks it.
import Derived.Test.YtlhijjfbcgconaaDoorZPx0
import Derived.Test.YtlhijjfbcgconaaDoorZPx5
import Derived.Test.YtlhijjfbcgconaaDoorZPx18
namespace Go.Proofs.YtlhijjfbcgconaaDoor.P
open Go.RowKit Go.Proofs.YtlhijjfbcgconaaDoorW.PrintWords Go.Proofs.YtlhijjfbcgconaaDoorW.PrintLast Go.Proofs.YtlhijjfbcgconaaDoorW.PrintMore
attribute [local go_sem] max2_int min2_int max_two min_two max_three min_three max_four min_four run_store_float   -- for this text's walks alone
set_option linter.unusedVariables false
set_option linter.unusedSimpArgs false

/-! ### semver_zzSplitN: function 54 -/
mutual
def semver_zzSplitN.j2 : Nat → ByteArray → ByteArray → List ByteArray → Option (List ByteArray)
  | 0, _, _, _ => none
  | k + 1, x0, x1, x7 => if (x1.size : Int) = 0 then (if (x0.size : Int) = 0 then (semver_zzSplitN.j3 k x0 x7 ((x7.length : Int) == 0)) else (semver_zzSplitN.j3 k x0 x7 false)) else (semver_zzSplitN.j3 k x0 x7 false)
def semver_zzSplitN.j3 : Nat → ByteArray → List ByteArray → Bool → Option (List ByteArray)
  | 0, _, _, _ => none
  | k + 1, x0, x7, x61 => if x61 = true then (some (([] : List ByteArray))) else (if x7.length < 8796093022208 then (some (x7 ++ [x0])) else (none))
def semver_zzSplitN.l0 : Nat → ByteArray → ByteArray → Int → List ByteArray → Option (List ByteArray)
  | 0, _, _, _, _ => none
  | k + 1, x0, x1, x2, x7 => if x2 < 0 then (semver_zzSplitN.j1 k x0 x1 x2 x7 true) else (semver_zzSplitN.j1 k x0 x1 x2 x7 (decide ((x7.length : Int) < (wrap64 (x2 - 1)))))
def semver_zzSplitN.j1 : Nat → ByteArray → ByteArray → Int → List ByteArray → Bool → Option (List ByteArray)
  | 0, _, _, _, _, _ => none
  | k + 1, x0, x1, x2, x7, x19 => if x19 = true then (if (x1.size : Int) = 0 then ((utf8_DecodeRuneInString.f x0).bind fun bt228 => (if bt228.2 = (x0.size : Int) then (semver_zzSplitN.j2 k x0 x1 x7) else (if 0 ≤ bt228.2 then (if bt228.2 ≤ (x0.size : Int) then (if x7.length < 8796093022208 then (if 0 ≤ (wrap64 (bt228.2 + (x1.size : Int))) then (if (wrap64 (bt228.2 + (x1.size : Int))) ≤ (x0.size : Int) then (semver_zzSplitN.l0 k (x0.extract ((wrap64 (bt228.2 + (x1.size : Int))) : Int).toNat x0.size) x1 x2 (x7 ++ [x0.extract 0 (bt228.2 : Int).toNat])) else (none)) else (none)) else (none)) else (none)) else (none)))) else ((semver_zzIndex.f k x0 x1).bind fun t233 => (if t233 < 0 then (semver_zzSplitN.j2 k x0 x1 x7) else (if 0 ≤ t233 then (if t233 ≤ (x0.size : Int) then (if x7.length < 8796093022208 then (if 0 ≤ (wrap64 (t233 + (x1.size : Int))) then (if (wrap64 (t233 + (x1.size : Int))) ≤ (x0.size : Int) then (semver_zzSplitN.l0 k (x0.extract ((wrap64 (t233 + (x1.size : Int))) : Int).toNat x0.size) x1 x2 (x7 ++ [x0.extract 0 (t233 : Int).toNat])) else (none)) else (none)) else (none)) else (none)) else (none))))) else (semver_zzSplitN.j2 k x0 x1 x7)
end
def semver_zzSplitN.f (k : Nat) (a0 : ByteArray) (a1 : ByteArray) (a2 : Int) : Option (List ByteArray) := if a2 = 0 then (some ([] : List ByteArray)) else (semver_zzSplitN.l0 k a0 a1 a2 ([] : List ByteArray))
theorem semver_zzSplitN.mono_l : ∀ k, (∀ y0 y1 y2, LeO (semver_zzSplitN.j2 k y0 y1 y2) (semver_zzSplitN.j2 (k + 1) y0 y1 y2)) ∧ (∀ y0 y1 y2, LeO (semver_zzSplitN.j3 k y0 y1 y2) (semver_zzSplitN.j3 (k + 1) y0 y1 y2)) ∧ (∀ y0 y1 y2 y3, LeO (semver_zzSplitN.l0 k y0 y1 y2 y3) (semver_zzSplitN.l0 (k + 1) y0 y1 y2 y3)) ∧ (∀ y0 y1 y2 y3 y4, LeO (semver_zzSplitN.j1 k y0 y1 y2 y3 y4) (semver_zzSplitN.j1 (k + 1) y0 y1 y2 y3 y4))
  | 0 => ⟨fun _ _ _ r h => by simp [semver_zzSplitN.j2] at h, fun _ _ _ r h => by simp [semver_zzSplitN.j3] at h, fun _ _ _ _ r h => by simp [semver_zzSplitN.l0] at h, fun _ _ _ _ _ r h => by simp [semver_zzSplitN.j1] at h⟩
  | k + 1 => by
    obtain ⟨ih0, ih1, ih2, ih3⟩ := semver_zzSplitN.mono_l k
    refine ⟨?_, ?_, ?_, ?_⟩
    · intro y0 y1 y2
      unfold semver_zzSplitN.j2
      repeat' first
      | (with_reducible exact ih0 _ _ _)
      | (with_reducible exact ih1 _ _ _)
      | (with_reducible exact ih2 _ _ _ _)
      | (with_reducible exact ih3 _ _ _ _ _)
      | (with_reducible exact semver_zzIndex.mono _ _ _)
      | (with_reducible exact LeO.refl _)
      | (with_reducible exact LeO.none _)
      | (with_reducible refine LeO.ite ?_ ?_)
      | (with_reducible refine LeO.bind ?_ (fun _ => ?_))
      | exact ih0 _ _ _
      | exact ih1 _ _ _
      | exact ih2 _ _ _ _
      | exact ih3 _ _ _ _ _
      | exact semver_zzIndex.mono _ _ _
      | exact LeO.none _
      | refine LeO.ite ?_ ?_
      | refine LeO.bind ?_ (fun _ => ?_)
    · intro y0 y1 y2
      unfold semver_zzSplitN.j3
      repeat' first
      | (with_reducible exact ih0 _ _ _)
      | (with_reducible exact ih1 _ _ _)
      | (with_reducible exact ih2 _ _ _ _)
      | (with_reducible exact ih3 _ _ _ _ _)
      | (with_reducible exact semver_zzIndex.mono _ _ _)
      | (with_reducible exact LeO.refl _)
      | (with_reducible exact LeO.none _)
      | (with_reducible refine LeO.ite ?_ ?_)
      | (with_reducible refine LeO.bind ?_ (fun _ => ?_))
      | exact ih0 _ _ _
      | exact ih1 _ _ _
      | exact ih2 _ _ _ _
      | exact ih3 _ _ _ _ _
      | exact semver_zzIndex.mono _ _ _
      | exact LeO.none _
      | refine LeO.ite ?_ ?_
      | refine LeO.bind ?_ (fun _ => ?_)
    · intro y0 y1 y2 y3
      unfold semver_zzSplitN.l0
      repeat' first
      | (with_reducible exact ih0 _ _ _)
      | (with_reducible exact ih1 _ _ _)
      | (with_reducible exact ih2 _ _ _ _)
      | (with_reducible exact ih3 _ _ _ _ _)
      | (with_reducible exact semver_zzIndex.mono _ _ _)
      | (with_reducible exact LeO.refl _)
      | (with_reducible exact LeO.none _)
      | (with_reducible refine LeO.ite ?_ ?_)
      | (with_reducible refine LeO.bind ?_ (fun _ => ?_))
      | exact ih0 _ _ _
      | exact ih1 _ _ _
      | exact ih2 _ _ _ _
      | exact ih3 _ _ _ _ _
      | exact semver_zzIndex.mono _ _ _
      | exact LeO.none _
      | refine LeO.ite ?_ ?_
      | refine LeO.bind ?_ (fun _ => ?_)
    · intro y0 y1 y2 y3 y4
      unfold semver_zzSplitN.j1
      repeat' first
      | (with_reducible exact ih0 _ _ _)
      | (with_reducible exact ih1 _ _ _)
      | (with_reducible exact ih2 _ _ _ _)
      | (with_reducible exact ih3 _ _ _ _ _)
      | (with_reducible exact semver_zzIndex.mono _ _ _)
      | (with_reducible exact LeO.refl _)
      | (with_reducible exact LeO.none _)
      | (with_reducible refine LeO.ite ?_ ?_)
      | (with_reducible refine LeO.bind ?_ (fun _ => ?_))
      | exact ih0 _ _ _
      | exact ih1 _ _ _
      | exact ih2 _ _ _ _
      | exact ih3 _ _ _ _ _
      | exact semver_zzIndex.mono _ _ _
      | exact LeO.none _
      | refine LeO.ite ?_ ?_
      | refine LeO.bind ?_ (fun _ => ?_)
theorem semver_zzSplitN.mono : ∀ a0 a1 a2 k, LeO (semver_zzSplitN.f k a0 a1 a2) (semver_zzSplitN.f (k + 1) a0 a1 a2) := by
  intro a0 a1 a2 k
  obtain ⟨ih0, ih1, ih2, ih3⟩ := semver_zzSplitN.mono_l k
  unfold semver_zzSplitN.f
  repeat' first
      | (with_reducible exact ih0 _ _ _)
      | (with_reducible exact ih1 _ _ _)
      | (with_reducible exact ih2 _ _ _ _)
      | (with_reducible exact ih3 _ _ _ _ _)
      | (with_reducible exact semver_zzIndex.mono _ _ _)
      | (with_reducible exact LeO.refl _)
      | (with_reducible exact LeO.none _)
      | (with_reducible refine LeO.ite ?_ ?_)
      | (with_reducible refine LeO.bind ?_ (fun _ => ?_))
      | exact ih0 _ _ _
      | exact ih1 _ _ _
      | exact ih2 _ _ _ _
      | exact ih3 _ _ _ _ _
      | exact semver_zzIndex.mono _ _ _
      | exact LeO.none _
      | refine LeO.ite ?_ ?_
      | refine LeO.bind ?_ (fun _ => ?_)
set_option maxHeartbeats 8000000 in
set_option maxRecDepth 100000 in
theorem semver_zzSplitN.calls (k : Nat) (a0 : ByteArray) (a1 : ByteArray) (a2 : Int) (r : List ByteArray) (w : World) (h : semver_zzSplitN.f k a0 a1 a2 = some r) (HT0U : TabsU w) :
    Calls Tryd.prog 54 #[.string a0, .string a1, .int .i64 a2] w fun e w' => ∃ v0_ : Value, e = .returned (v0_) ∧ Kd.R Kd.string 9 w' w.heap.size (fun _ => True) v0_ r ∧ Below w.heap.size w w' := by
  have HTU := Aside0.mk HT0U
  clear HT0U
  have HB := Aside0.mk (Below.refl w.heap.size w)
  have H : (if a2 = 0 then (some ([] : List ByteArray)) else (semver_zzSplitN.l0 k a0 a1 a2 ([] : List ByteArray))) = some r := h
  clear h
  by_cases c4 : a2 = 0
  · rw [if_pos c4] at H
    have c4b0 : (a2 == 0) = true := beq_iff_eq.mpr c4
    have c4b1 : (a2 != 0) = false := bne_eq_false_iff_eq.mpr c4
    clear c4
    as_aux_lemma =>
      obtain rfl := Option.some.inj H
      go_enter Tryd.func54, Tryd.ntmps54
      go_wp2
      go_ret
      exact ⟨_, by first | rfl | (simp [errW_none, errW_some] <;> rfl) | (simp [*, errW_none, errW_some] <;> rfl), by first | exact Kd.R_nil _ _ _ _ _ | exact Kd.N_nil _ _ _ _ _ | exact Kd.V_nil _ _ _ _ _ | exact Kd.Q_nil _ _ _ _ _ | exact Kd.S_nil _ _ _ _ _, by repeat (first | (with_reducible first | exact HB.out | apply below_alloc | apply pw_below_drewN | apply below_drew1) | exact HB.out)⟩
  · rw [if_neg c4] at H
    have c4b0 : (a2 == 0) = false := beq_eq_false_iff_ne.mpr c4
    have c4b1 : (a2 != 0) = true := bne_iff_ne.mpr c4
    have HC5 := Aside0.mk H
    clear H
    go_enter Tryd.func54, Tryd.ntmps54
    go_upto_block 0 with (fail)
    go_cut [0, 7] (fun v0 v7 wc => ∃ (kq : Nat) (x0_4 : ByteArray) (x7_4 : List ByteArray), v0 = .string x0_4 ∧ Aside0 (semver_zzSplitN.j2 kq x0_4 a1 x7_4 = some r) ∧ Aside0 (kq ≤ k) ∧ Aside0 (Kd.R Kd.string 9 wc w.heap.size (fun _ => True) v7 x7_4) ∧ Aside0 (Below w.heap.size w wc))
    case first =>
      have H := HC5.out
      clear HC5
      have H' := Aside0.mk H
      clear H
      go_wp2
      go_loopg [0, 7] k (fun kq v0 v7 w' => ∃ (x0_1 : ByteArray) (x7_1 : List ByteArray), v0 = .string x0_1 ∧ Aside0 (semver_zzSplitN.l0 kq x0_1 a1 a2 x7_1 = some r) ∧ Aside0 (kq ≤ k) ∧ Aside0 (Kd.R Kd.string 9 w' w.heap.size (fun _ => True) v7 x7_1) ∧ Aside0 (Below w.heap.size w w'))
      case atStart => exact ⟨(a0), (([] : List ByteArray)), (by first | rfl | (simp only [bytesLe_not]; done) | (simp; done) | (simp [*]; done)), H', ⟨Nat.le_refl _⟩, ⟨by first | exact Kd.R_nil _ _ _ _ _ | exact Kd.N_nil _ _ _ _ _ | exact Kd.V_nil _ _ _ _ _ | exact Kd.Q_nil _ _ _ _ _ | exact Kd.S_nil _ _ _ _ _⟩, ⟨by repeat (first | (with_reducible first | exact HB.out | apply below_alloc | apply pw_below_drewN | apply below_drew1) | exact HB.out)⟩⟩
      case round =>
        clear H'
        try clear p2
        try clear c4
        try clear c4b0
        try clear c4b1
        try clear c5
        obtain ⟨x0_1, x7_1, rfl, HA, HK1, HO_7, HB⟩ := hrel
        cases gk with
        | zero => exact absurd HA.out (by simp [semver_zzSplitN.l0])
        | succ k1 =>
          have H := HA.out
          clear HA
          simp only [semver_zzSplitN.l0] at H
          have HC6 := Aside0.mk H
          clear H
          go_upto_region 4 with (fail)
          go_cut [19] (fun v19 wc => ∃ (kq : Nat) (x19_5 : Bool), v19 = .bool x19_5 ∧ Aside0 (semver_zzSplitN.j1 kq x0_1 a1 a2 x7_1 x19_5 = some r) ∧ Aside0 (kq ≤ k1) ∧ Aside0 (Kd.R Kd.string 9 wc w.heap.size (fun _ => True) u7 x7_1) ∧ Aside0 (Below w.heap.size w wc))
          case first =>
            have H := HC6.out
            clear HC6
            by_cases c7 : a2 < 0
            · rw [if_pos c7] at H
              have c7b0 : decide (a2 < 0) = true := decide_eq_true c7
              clear c7
              (first | rw [c7b0] | (simp only [i64_w, i32_w]; rw [c7b0]) | skip)
              as_aux_lemma =>
                have H' := Aside0.mk H
                clear H
                go_wp2
                go_meet
                case rel => exact ⟨_, (true), (by first | rfl | (simp only [bytesLe_not]; done) | (simp; done) | (simp [*]; done)), H', ⟨by have := HK1.out; first | omega | exact Nat.le_refl _⟩, ⟨by (with_reducible repeat (first | apply Kd.R_alloc | apply Kd.R_drewN | apply Kd.R_drew)); exact HO_7.out⟩, ⟨by repeat (first | (with_reducible first | exact HB.out | apply below_alloc | apply pw_below_drewN | apply below_drew1) | exact HB.out)⟩⟩
            · rw [if_neg c7] at H
              have c7b0 : decide (a2 < 0) = false := decide_eq_false c7
              clear c7
              (first | rw [c7b0] | (simp only [i64_w, i32_w]; rw [c7b0]) | skip)
              as_aux_lemma =>
                have H' := Aside0.mk H
                clear H
                obtain ⟨Ao8, co8, eo8⟩ := Kd.R_slice HO_7.out
                subst eo8
                go_wp2
                go_meet
                case rel => exact ⟨_, (decide ((x7_1.length : Int) < (wrap64 (a2 - 1)))), (by first | rfl | (simp only [bytesLe_not]; done) | (simp; done) | (simp [*]; done)), H', ⟨by have := HK1.out; first | omega | exact Nat.le_refl _⟩, ⟨by (with_reducible repeat (first | apply Kd.R_alloc | apply Kd.R_drewN | apply Kd.R_drew)); exact HO_7.out⟩, ⟨by repeat (first | (with_reducible first | exact HB.out | apply below_alloc | apply pw_below_drewN | apply below_drew1) | exact HB.out)⟩⟩
          case rest =>
            clear HC6
            try clear p2
            try clear c4
            try clear c4b0
            try clear c4b1
            try clear c5
            try clear p6
            try clear c7
            try clear c7b0
            try clear p2
            obtain ⟨kq, x19_5, rfl, HA, HJ5, HO_7, HB⟩ := hcut
            cases kq with
            | zero => exact absurd HA.out (by simp [semver_zzSplitN.j1])
            | succ kj5 =>
              have H := HA.out
              clear HA
              simp only [semver_zzSplitN.j1] at H
              by_cases c9 : x19_5 = true
              · subst c9
                have H1 : (if (a1.size : Int) = 0 then ((utf8_DecodeRuneInString.f x0_1).bind fun bt228 => (if bt228.2 = (x0_1.size : Int) then (semver_zzSplitN.j2 kj5 x0_1 a1 x7_1) else (if 0 ≤ bt228.2 then (if bt228.2 ≤ (x0_1.size : Int) then (if x7_1.length < 8796093022208 then (if 0 ≤ (wrap64 (bt228.2 + (a1.size : Int))) then (if (wrap64 (bt228.2 + (a1.size : Int))) ≤ (x0_1.size : Int) then (semver_zzSplitN.l0 kj5 (x0_1.extract ((wrap64 (bt228.2 + (a1.size : Int))) : Int).toNat x0_1.size) a1 a2 (x7_1 ++ [x0_1.extract 0 (bt228.2 : Int).toNat])) else (none)) else (none)) else (none)) else (none)) else (none)))) else ((semver_zzIndex.f kj5 x0_1 a1).bind fun t233 => (if t233 < 0 then (semver_zzSplitN.j2 kj5 x0_1 a1 x7_1) else (if 0 ≤ t233 then (if t233 ≤ (x0_1.size : Int) then (if x7_1.length < 8796093022208 then (if 0 ≤ (wrap64 (t233 + (a1.size : Int))) then (if (wrap64 (t233 + (a1.size : Int))) ≤ (x0_1.size : Int) then (semver_zzSplitN.l0 kj5 (x0_1.extract ((wrap64 (t233 + (a1.size : Int))) : Int).toNat x0_1.size) a1 a2 (x7_1 ++ [x0_1.extract 0 (t233 : Int).toNat])) else (none)) else (none)) else (none)) else (none)) else (none))))) = some r := by rw [if_pos rfl] at H; exact H
                clear H
                have H := H1
                clear H1
                by_cases c10 : (a1.size : Int) = 0
                · rw [if_pos c10] at H
                  have c10b0 : ((a1.size : Int) == 0) = true := beq_iff_eq.mpr c10
                  have c10b1 : ((a1.size : Int) != 0) = false := bne_eq_false_iff_eq.mpr c10
                  clear c10
                  replace H := Option.bind_eq_some_iff.mp H
                  obtain ⟨⟨t228, t229⟩, A110, H⟩ := H
                  replace H : (if t229 = (x0_1.size : Int) then (semver_zzSplitN.j2 kj5 x0_1 a1 x7_1) else (if 0 ≤ t229 then (if t229 ≤ (x0_1.size : Int) then (if x7_1.length < 8796093022208 then (if 0 ≤ (wrap64 (t229 + (a1.size : Int))) then (if (wrap64 (t229 + (a1.size : Int))) ≤ (x0_1.size : Int) then (semver_zzSplitN.l0 kj5 (x0_1.extract ((wrap64 (t229 + (a1.size : Int))) : Int).toNat x0_1.size) a1 a2 (x7_1 ++ [x0_1.extract 0 (t229 : Int).toNat])) else (none)) else (none)) else (none)) else (none)) else (none))) = some r := H
                  have A11 := Aside0.mk A110
                  clear A110
                  by_cases c12 : t229 = (x0_1.size : Int)
                  · rw [if_pos c12] at H
                    have c12b0 : (t229 == (x0_1.size : Int)) = true := beq_iff_eq.mpr c12
                    have c12b1 : (t229 != (x0_1.size : Int)) = false := bne_eq_false_iff_eq.mpr c12
                    clear c12
                    as_aux_lemma =>
                      have H' := Aside0.mk H
                      clear H
                      go_wp2_with (first | ((with_reducible refine gate_callee (f := 69) rfl ?_); refine goesL_ (some 25) rfl rfl Tryd.func69 (by kernel_rfl) rfl #[.string x0_1] rfl (by (try simp only [List.map_toArray, List.map_cons, List.map_nil]); first | done | rfl | (simp only [List.length_drop, List.length_take]; rfl)) ?_; (with_reducible refine (utf8_DecodeRuneInString.calls x0_1 t228 t229 _ A11.out (TabsU.below HTU.out (by repeat (first | (with_reducible first | exact HB.out | apply below_alloc | apply pw_below_drewN | apply below_drew1) | exact HB.out)))).mono ?_); rintro e w13 ⟨rfl, hb⟩; refine ⟨_, rfl, ?_⟩; have n0_ := Aside0.mk (Kd.R_below (by (with_reducible repeat (first | apply Kd.R_alloc | apply Kd.R_drewN | apply Kd.R_drew)); exact HO_7.out) hb); have n1_ := Aside0.mk (below_step (by repeat (first | (with_reducible first | exact HB.out | apply below_alloc | apply pw_below_drewN | apply below_drew1) | exact HB.out)) hb); clear HO_7; clear HB; have HO_7 := n0_; have HB := n1_; clear n0_ n1_; (try clear hb); (try clear hb2); (try clear hk); (try clear hi)))
                      go_meet
                      case rel => exact ⟨_, (x0_1), (x7_1), (by first | rfl | (simp only [bytesLe_not]; done) | (simp; done) | (simp [*]; done)), H', ⟨by have := HK1.out; have := HJ5.out; first | omega | exact Nat.le_refl _⟩, ⟨by (with_reducible repeat (first | apply Kd.R_alloc | apply Kd.R_drewN | apply Kd.R_drew)); exact HO_7.out⟩, ⟨by repeat (first | (with_reducible first | exact HB.out | apply below_alloc | apply pw_below_drewN | apply below_drew1) | exact HB.out)⟩⟩
                  · rw [if_neg c12] at H
                    have c12b0 : (t229 == (x0_1.size : Int)) = false := beq_eq_false_iff_ne.mpr c12
                    have c12b1 : (t229 != (x0_1.size : Int)) = true := bne_iff_ne.mpr c12
                    by_cases c14 : 0 ≤ t229
                    · rw [if_pos c14] at H
                      have c14b0 := eq_true c14
                      have c14b1 : decide (0 ≤ t229) = true := decide_eq_true c14
                      clear c14
                      by_cases c15 : t229 ≤ (x0_1.size : Int)
                      · rw [if_pos c15] at H
                        have c15b0 := eq_true c15
                        have c15b1 : decide (t229 ≤ (x0_1.size : Int)) = true := decide_eq_true c15
                        clear c15
                        by_cases c16 : x7_1.length < 8796093022208
                        · rw [if_pos c16] at H
                          have LMc16 := Aside0.mk c16
                          clear c16
                          obtain ⟨y230, hy230⟩ : ∃ y_ : List ByteArray, y_ = (x7_1 ++ [x0_1.extract 0 (t229 : Int).toNat]) := ⟨_, rfl⟩
                          replace H : (if 0 ≤ (wrap64 (t229 + (a1.size : Int))) then (if (wrap64 (t229 + (a1.size : Int))) ≤ (x0_1.size : Int) then (semver_zzSplitN.l0 kj5 (x0_1.extract ((wrap64 (t229 + (a1.size : Int))) : Int).toNat x0_1.size) a1 a2 y230) else (none)) else (none)) = some r := by first | (rw [hy230]; with_reducible exact H) | (have H2_ := (Option.bind_some _ _).symm.trans H; rw [hy230]; with_reducible exact H2_) | (have H2_ := (Option.bind_some _ _).symm.trans H; with_reducible exact H2_) | with_reducible exact H | (rw [hy230]; exact H) | exact H
                          have Ny230 := Aside0.mk hy230
                          clear hy230
                          obtain ⟨ji17, hji17⟩ : ∃ j_ : Int, (wrap64 (t229 + (a1.size : Int))) = j_ := ⟨_, rfl⟩
                          replace H : (if 0 ≤ (ji17) then (if (ji17) ≤ (x0_1.size : Int) then (semver_zzSplitN.l0 kj5 (x0_1.extract ((ji17) : Int).toNat x0_1.size) a1 a2 y230) else (none)) else (none)) = some r := by first | (rw [hji17] at H; exact H) | (simp only [hji17] at H ⊢; exact H)
                          (try rw [hji17] at A11)
                          have hji17w : (IntKind.i64.wrap (t229 + (a1.size : Int))) = ji17 := (i64_w _).trans hji17
                          by_cases c18 : 0 ≤ (ji17)
                          · rw [if_pos c18] at H
                            have c18b0 := eq_true c18
                            have c18b1 : decide (0 ≤ (ji17)) = true := decide_eq_true c18
                            clear c18
                            by_cases c19 : (ji17) ≤ (x0_1.size : Int)
                            · rw [if_pos c19] at H
                              have c19b0 := eq_true c19
                              have c19b1 : decide ((ji17) ≤ (x0_1.size : Int)) = true := decide_eq_true c19
                              clear c19
                              as_aux_lemma =>
                                have H' := Aside0.mk H
                                clear H
                                go_wp2_with (first | ((with_reducible refine gate_callee (f := 69) rfl ?_); refine goesL_ (some 25) rfl rfl Tryd.func69 (by kernel_rfl) rfl #[.string x0_1] rfl (by (try simp only [List.map_toArray, List.map_cons, List.map_nil]); first | done | rfl | (simp only [List.length_drop, List.length_take]; rfl)) ?_; (with_reducible refine (utf8_DecodeRuneInString.calls x0_1 t228 t229 _ A11.out (TabsU.below HTU.out (by repeat (first | (with_reducible first | exact HB.out | apply below_alloc | apply pw_below_drewN | apply below_drew1) | exact HB.out)))).mono ?_); rintro e w20 ⟨rfl, hb⟩; refine ⟨_, rfl, ?_⟩; have n0_ := Aside0.mk (Kd.R_below (by (with_reducible repeat (first | apply Kd.R_alloc | apply Kd.R_drewN | apply Kd.R_drew)); exact HO_7.out) hb); have n1_ := Aside0.mk (below_step (by repeat (first | (with_reducible first | exact HB.out | apply below_alloc | apply pw_below_drewN | apply below_drew1) | exact HB.out)) hb); clear HO_7; clear HB; have HO_7 := n0_; have HB := n1_; clear n0_ n1_; (try clear hb); (try clear hb2); (try clear hk); (try clear hi)) | ((with_reducible refine gate_builtin (b := .append) (xs := #[.tmp 37, .tmp 41]) rfl ?_); (try (refine gate_guard (by rfl) ?_; dsimp only)); at_builtin; refine Kd.R_append Kd.string (w0 := w) w.heap.size rfl (.tmp 37) (.tmp 41) 62 9 (.string ⟨#[]⟩) 16 rfl Tryd.underlying62 info9 rfl (by decide) (by omega) u7 x7_1 (x0_1.extract 0 (t229 : Int).toNat) [.string (x0_1.extract 0 (t229 : Int).toNat)] (fun _ => True) (fun _ => False) rfl rfl ?aP (fun _ hk => hk.elim) ?aF ?aO ?aB ?aS ?aL ?_; (case aP => exact rfl); (case aB => exact (by repeat (first | (with_reducible first | exact HB.out | apply below_alloc | apply pw_below_drewN | apply below_drew1) | exact HB.out))); (case aF => exact (fun _ _ => trivial)); (case aO => exact (by (with_reducible repeat (first | apply Kd.R_alloc | apply Kd.R_drewN | apply Kd.R_drew)); exact HO_7.out)); (case aS => exact (below_size (by repeat (first | (with_reducible first | exact HB.out | apply below_alloc | apply pw_below_drewN | apply below_drew1) | exact HB.out)))); (case aL => have := LMc16.out; omega); intro v231 w21 ho hb hg hat; rw [← Ny230.out] at ho; have n0_ := Aside0.mk (hb); have n1_ := Aside0.mk (ho); clear HB; clear HO_7; have HB := n0_; have HO232 := n1_; clear n0_ n1_; clear ho hb hg hat))
                                go_roundg kj5
                                case measure => have := HK1.out; have := HJ5.out; omega
                                case rel => exact ⟨(x0_1.extract ((ji17) : Int).toNat x0_1.size), (y230), (by first | rfl | (simp only [bytesLe_not]; done) | (simp; done) | (simp only [← hji17] <;> (first | rfl | simp)) | (simp [*]; done)), H', ⟨by have := HK1.out; have := HJ5.out; omega⟩, ⟨by (with_reducible repeat (first | apply Kd.R_alloc | apply Kd.R_drewN | apply Kd.R_drew)); exact HO232.out⟩, ⟨by repeat (first | (with_reducible first | exact HB.out | apply below_alloc | apply pw_below_drewN | apply below_drew1) | exact HB.out)⟩⟩
                            · rw [if_neg c19] at H
                              exact absurd H (by simp)
                          · rw [if_neg c18] at H
                            exact absurd H (by simp)
                        · rw [if_neg c16] at H
                          exact absurd H (by simp)
                      · rw [if_neg c15] at H
                        exact absurd H (by simp)
                    · rw [if_neg c14] at H
                      exact absurd H (by simp)
                · rw [if_neg c10] at H
                  have c10b0 : ((a1.size : Int) == 0) = false := beq_eq_false_iff_ne.mpr c10
                  have c10b1 : ((a1.size : Int) != 0) = true := bne_iff_ne.mpr c10
                  replace H := Option.bind_eq_some_iff.mp H
                  obtain ⟨t233, A220, H⟩ := H
                  replace H : (if t233 < 0 then (semver_zzSplitN.j2 kj5 x0_1 a1 x7_1) else (if 0 ≤ t233 then (if t233 ≤ (x0_1.size : Int) then (if x7_1.length < 8796093022208 then (if 0 ≤ (wrap64 (t233 + (a1.size : Int))) then (if (wrap64 (t233 + (a1.size : Int))) ≤ (x0_1.size : Int) then (semver_zzSplitN.l0 kj5 (x0_1.extract ((wrap64 (t233 + (a1.size : Int))) : Int).toNat x0_1.size) a1 a2 (x7_1 ++ [x0_1.extract 0 (t233 : Int).toNat])) else (none)) else (none)) else (none)) else (none)) else (none))) = some r := H
                  have A22 := Aside0.mk A220
                  clear A220
                  by_cases c23 : t233 < 0
                  · rw [if_pos c23] at H
                    have c23b0 : decide (t233 < 0) = true := decide_eq_true c23
                    clear c23
                    as_aux_lemma =>
                      have H' := Aside0.mk H
                      clear H
                      go_wp2_with (first | ((with_reducible refine gate_callee (f := 70) rfl ?_); refine goesL_ (some 34) rfl rfl Tryd.func70 (by kernel_rfl) rfl #[.string x0_1, .string a1] rfl (by (try simp only [List.map_toArray, List.map_cons, List.map_nil]); first | done | rfl | (simp only [List.length_drop, List.length_take]; rfl)) ?_; (with_reducible refine (semver_zzIndex.calls kj5 x0_1 a1 t233 _ A22.out).mono ?_); rintro e w' ⟨rfl, ⟨nd, rfl⟩⟩; refine ⟨_, rfl, ?_⟩))
                      go_meet
                      case rel => exact ⟨_, (x0_1), (x7_1), (by first | rfl | (simp only [bytesLe_not]; done) | (simp; done) | (simp [*]; done)), H', ⟨by have := HK1.out; have := HJ5.out; first | omega | exact Nat.le_refl _⟩, ⟨by (with_reducible repeat (first | apply Kd.R_alloc | apply Kd.R_drewN | apply Kd.R_drew)); exact HO_7.out⟩, ⟨by repeat (first | (with_reducible first | exact HB.out | apply below_alloc | apply pw_below_drewN | apply below_drew1) | exact HB.out)⟩⟩
                  · rw [if_neg c23] at H
                    have c23b0 : decide (t233 < 0) = false := decide_eq_false c23
                    clear c23
                    by_cases c24 : 0 ≤ t233
                    · rw [if_pos c24] at H
                      have c24b0 := eq_true c24
                      have c24b1 : decide (0 ≤ t233) = true := decide_eq_true c24
                      clear c24
                      by_cases c25 : t233 ≤ (x0_1.size : Int)
                      · rw [if_pos c25] at H
                        have c25b0 := eq_true c25
                        have c25b1 : decide (t233 ≤ (x0_1.size : Int)) = true := decide_eq_true c25
                        clear c25
                        by_cases c26 : x7_1.length < 8796093022208
                        · rw [if_pos c26] at H
                          have LMc26 := Aside0.mk c26
                          clear c26
                          obtain ⟨y234, hy234⟩ : ∃ y_ : List ByteArray, y_ = (x7_1 ++ [x0_1.extract 0 (t233 : Int).toNat]) := ⟨_, rfl⟩
                          replace H : (if 0 ≤ (wrap64 (t233 + (a1.size : Int))) then (if (wrap64 (t233 + (a1.size : Int))) ≤ (x0_1.size : Int) then (semver_zzSplitN.l0 kj5 (x0_1.extract ((wrap64 (t233 + (a1.size : Int))) : Int).toNat x0_1.size) a1 a2 y234) else (none)) else (none)) = some r := by first | (rw [hy234]; with_reducible exact H) | (have H2_ := (Option.bind_some _ _).symm.trans H; rw [hy234]; with_reducible exact H2_) | (have H2_ := (Option.bind_some _ _).symm.trans H; with_reducible exact H2_) | with_reducible exact H | (rw [hy234]; exact H) | exact H
                          have Ny234 := Aside0.mk hy234
                          clear hy234
                          obtain ⟨ji27, hji27⟩ : ∃ j_ : Int, (wrap64 (t233 + (a1.size : Int))) = j_ := ⟨_, rfl⟩
                          replace H : (if 0 ≤ (ji27) then (if (ji27) ≤ (x0_1.size : Int) then (semver_zzSplitN.l0 kj5 (x0_1.extract ((ji27) : Int).toNat x0_1.size) a1 a2 y234) else (none)) else (none)) = some r := by first | (rw [hji27] at H; exact H) | (simp only [hji27] at H ⊢; exact H)
                          (try rw [hji27] at A22)
                          have hji27w : (IntKind.i64.wrap (t233 + (a1.size : Int))) = ji27 := (i64_w _).trans hji27
                          by_cases c28 : 0 ≤ (ji27)
                          · rw [if_pos c28] at H
                            have c28b0 := eq_true c28
                            have c28b1 : decide (0 ≤ (ji27)) = true := decide_eq_true c28
                            clear c28
                            by_cases c29 : (ji27) ≤ (x0_1.size : Int)
                            · rw [if_pos c29] at H
                              have c29b0 := eq_true c29
                              have c29b1 : decide ((ji27) ≤ (x0_1.size : Int)) = true := decide_eq_true c29
                              clear c29
                              as_aux_lemma =>
                                have H' := Aside0.mk H
                                clear H
                                go_wp2_with (first | ((with_reducible refine gate_callee (f := 70) rfl ?_); refine goesL_ (some 34) rfl rfl Tryd.func70 (by kernel_rfl) rfl #[.string x0_1, .string a1] rfl (by (try simp only [List.map_toArray, List.map_cons, List.map_nil]); first | done | rfl | (simp only [List.length_drop, List.length_take]; rfl)) ?_; (with_reducible refine (semver_zzIndex.calls kj5 x0_1 a1 t233 _ A22.out).mono ?_); rintro e w' ⟨rfl, ⟨nd, rfl⟩⟩; refine ⟨_, rfl, ?_⟩) | ((with_reducible refine gate_builtin (b := .append) (xs := #[.tmp 37, .tmp 41]) rfl ?_); (try (refine gate_guard (by rfl) ?_; dsimp only)); at_builtin; refine Kd.R_append Kd.string (w0 := w) w.heap.size rfl (.tmp 37) (.tmp 41) 62 9 (.string ⟨#[]⟩) 16 rfl Tryd.underlying62 info9 rfl (by decide) (by omega) u7 x7_1 (x0_1.extract 0 (t233 : Int).toNat) [.string (x0_1.extract 0 (t233 : Int).toNat)] (fun _ => True) (fun _ => False) rfl rfl ?aP (fun _ hk => hk.elim) ?aF ?aO ?aB ?aS ?aL ?_; (case aP => exact rfl); (case aB => exact (by repeat (first | (with_reducible first | exact HB.out | apply below_alloc | apply pw_below_drewN | apply below_drew1) | exact HB.out))); (case aF => exact (fun _ _ => trivial)); (case aO => exact (by (with_reducible repeat (first | apply Kd.R_alloc | apply Kd.R_drewN | apply Kd.R_drew)); exact HO_7.out)); (case aS => exact (below_size (by repeat (first | (with_reducible first | exact HB.out | apply below_alloc | apply pw_below_drewN | apply below_drew1) | exact HB.out)))); (case aL => have := LMc26.out; omega); intro v235 w30 ho hb hg hat; rw [← Ny234.out] at ho; have n0_ := Aside0.mk (hb); have n1_ := Aside0.mk (ho); clear HB; clear HO_7; have HB := n0_; have HO236 := n1_; clear n0_ n1_; clear ho hb hg hat))
                                go_roundg kj5
                                case measure => have := HK1.out; have := HJ5.out; omega
                                case rel => exact ⟨(x0_1.extract ((ji27) : Int).toNat x0_1.size), (y234), (by first | rfl | (simp only [bytesLe_not]; done) | (simp; done) | (simp only [← hji27] <;> (first | rfl | simp)) | (simp [*]; done)), H', ⟨by have := HK1.out; have := HJ5.out; omega⟩, ⟨by (with_reducible repeat (first | apply Kd.R_alloc | apply Kd.R_drewN | apply Kd.R_drew)); exact HO236.out⟩, ⟨by repeat (first | (with_reducible first | exact HB.out | apply below_alloc | apply pw_below_drewN | apply below_drew1) | exact HB.out)⟩⟩
                            · rw [if_neg c29] at H
                              exact absurd H (by simp)
                          · rw [if_neg c28] at H
                            exact absurd H (by simp)
                        · rw [if_neg c26] at H
                          exact absurd H (by simp)
                      · rw [if_neg c25] at H
                        exact absurd H (by simp)
                    · rw [if_neg c24] at H
                      exact absurd H (by simp)
              · replace c9 := Bool.eq_false_iff.mpr c9
                subst c9
                have H1 : (semver_zzSplitN.j2 kj5 x0_1 a1 x7_1) = some r := by rw [if_neg (show ¬ (false = true) by decide)] at H; exact H
                clear H
                have H := H1
                clear H1
                as_aux_lemma =>
                  have H' := Aside0.mk H
                  clear H
                  go_wp2
                  go_meet
                  case rel => exact ⟨_, (x0_1), (x7_1), (by first | rfl | (simp only [bytesLe_not]; done) | (simp; done) | (simp [*]; done)), H', ⟨by have := HK1.out; have := HJ5.out; first | omega | exact Nat.le_refl _⟩, ⟨by (with_reducible repeat (first | apply Kd.R_alloc | apply Kd.R_drewN | apply Kd.R_drew)); exact HO_7.out⟩, ⟨by repeat (first | (with_reducible first | exact HB.out | apply below_alloc | apply pw_below_drewN | apply below_drew1) | exact HB.out)⟩⟩
    case rest =>
      clear HC5
      try clear c1
      try clear c2
      try clear p2
      try clear c4
      try clear c4b0
      try clear c4b1
      try clear c5
      try clear c6
      try clear p6
      try clear c7
      try clear c7b0
      try clear c9
      try clear c10
      try clear c10b0
      try clear c10b1
      try clear c12
      try clear c12b0
      try clear c12b1
      try clear c14
      try clear c14b0
      try clear c14b1
      try clear c15
      try clear c15b0
      try clear c15b1
      try clear c16
      try clear c18
      try clear c18b0
      try clear c18b1
      try clear c19
      try clear c19b0
      try clear c19b1
      try clear c23
      try clear c23b0
      try clear c24
      try clear c24b0
      try clear c24b1
      try clear c25
      try clear c25b0
      try clear c25b1
      try clear c26
      try clear c28
      try clear c28b0
      try clear c28b1
      try clear c29
      try clear c29b0
      try clear c29b1
      try clear p2
      try clear p6
      obtain ⟨kq, x0_4, x7_4, rfl, HA, HJ4, HO_7, HB⟩ := hcut
      cases kq with
      | zero => exact absurd HA.out (by simp [semver_zzSplitN.j2])
      | succ kj4 =>
        have H := HA.out
        clear HA
        simp only [semver_zzSplitN.j2] at H
        have HC31 := Aside0.mk H
        clear H
        go_upto_region 13 with (fail)
        go_cut [61] (fun v61 wc => ∃ (kq : Nat) (x61_30 : Bool), v61 = .bool x61_30 ∧ Aside0 (semver_zzSplitN.j3 kq x0_4 x7_4 x61_30 = some r) ∧ Aside0 (kq ≤ kj4) ∧ Aside0 (Kd.R Kd.string 9 wc w.heap.size (fun _ => True) u7 x7_4) ∧ Aside0 (Below w.heap.size w wc))
        case first =>
          have H := HC31.out
          clear HC31
          by_cases c32 : (a1.size : Int) = 0
          · rw [if_pos c32] at H
            have c32b0 : ((a1.size : Int) == 0) = true := beq_iff_eq.mpr c32
            have c32b1 : ((a1.size : Int) != 0) = false := bne_eq_false_iff_eq.mpr c32
            clear c32
            (first | rw [c32b0] | (simp only [i64_w, i32_w]; rw [c32b0]) | skip)
            by_cases c33 : (x0_4.size : Int) = 0
            · rw [if_pos c33] at H
              have c33b0 : ((x0_4.size : Int) == 0) = true := beq_iff_eq.mpr c33
              have c33b1 : ((x0_4.size : Int) != 0) = false := bne_eq_false_iff_eq.mpr c33
              clear c33
              as_aux_lemma =>
                have H' := Aside0.mk H
                clear H
                obtain ⟨Ao34, co34, eo34⟩ := Kd.R_slice HO_7.out
                subst eo34
                go_wp2
                go_meet
                case rel => exact ⟨_, (((x7_4.length : Int) == 0)), (by first | rfl | (simp only [bytesLe_not]; done) | (simp; done) | (simp [*]; done)), H', ⟨by have := HJ4.out; first | omega | exact Nat.le_refl _⟩, ⟨by (with_reducible repeat (first | apply Kd.R_alloc | apply Kd.R_drewN | apply Kd.R_drew)); exact HO_7.out⟩, ⟨by repeat (first | (with_reducible first | exact HB.out | apply below_alloc | apply pw_below_drewN | apply below_drew1) | exact HB.out)⟩⟩
            · rw [if_neg c33] at H
              have c33b0 : ((x0_4.size : Int) == 0) = false := beq_eq_false_iff_ne.mpr c33
              have c33b1 : ((x0_4.size : Int) != 0) = true := bne_iff_ne.mpr c33
              as_aux_lemma =>
                have H' := Aside0.mk H
                clear H
                go_wp2
                go_meet
                case rel => exact ⟨_, (false), (by first | rfl | (simp only [bytesLe_not]; done) | (simp; done) | (simp [*]; done)), H', ⟨by have := HJ4.out; first | omega | exact Nat.le_refl _⟩, ⟨by (with_reducible repeat (first | apply Kd.R_alloc | apply Kd.R_drewN | apply Kd.R_drew)); exact HO_7.out⟩, ⟨by repeat (first | (with_reducible first | exact HB.out | apply below_alloc | apply pw_below_drewN | apply below_drew1) | exact HB.out)⟩⟩
          · rw [if_neg c32] at H
            have c32b0 : ((a1.size : Int) == 0) = false := beq_eq_false_iff_ne.mpr c32
            have c32b1 : ((a1.size : Int) != 0) = true := bne_iff_ne.mpr c32
            (first | rw [c32b0] | (simp only [i64_w, i32_w]; rw [c32b0]) | skip)
            as_aux_lemma =>
              have H' := Aside0.mk H
              clear H
              go_wp2
              go_meet
              case rel => exact ⟨_, (false), (by first | rfl | (simp only [bytesLe_not]; done) | (simp; done) | (simp [*]; done)), H', ⟨by have := HJ4.out; first | omega | exact Nat.le_refl _⟩, ⟨by (with_reducible repeat (first | apply Kd.R_alloc | apply Kd.R_drewN | apply Kd.R_drew)); exact HO_7.out⟩, ⟨by repeat (first | (with_reducible first | exact HB.out | apply below_alloc | apply pw_below_drewN | apply below_drew1) | exact HB.out)⟩⟩
        case rest =>
          clear HC31
          try clear c1
          try clear c2
          try clear p2
          try clear c3
          try clear c4
          try clear c4b0
          try clear c4b1
          try clear c5
          try clear c6
          try clear p6
          try clear c7
          try clear c7b0
          try clear c9
          try clear c10
          try clear c10b0
          try clear c10b1
          try clear c12
          try clear c12b0
          try clear c12b1
          try clear c14
          try clear c14b0
          try clear c14b1
          try clear c15
          try clear c15b0
          try clear c15b1
          try clear c16
          try clear c18
          try clear c18b0
          try clear c18b1
          try clear c19
          try clear c19b0
          try clear c19b1
          try clear c23
          try clear c23b0
          try clear c24
          try clear c24b0
          try clear c24b1
          try clear c25
          try clear c25b0
          try clear c25b1
          try clear c26
          try clear c28
          try clear c28b0
          try clear c28b1
          try clear c29
          try clear c29b0
          try clear c29b1
          try clear c32
          try clear c32b0
          try clear c32b1
          try clear c33
          try clear c33b0
          try clear c33b1
          try clear p2
          try clear p6
          obtain ⟨kq, x61_30, rfl, HA, HJ30, HO_7, HB⟩ := hcut
          cases kq with
          | zero => exact absurd HA.out (by simp [semver_zzSplitN.j3])
          | succ kj30 =>
            have H := HA.out
            clear HA
            simp only [semver_zzSplitN.j3] at H
            by_cases c35 : x61_30 = true
            · subst c35
              have H1 : (some (([] : List ByteArray))) = some r := by rw [if_pos rfl] at H; exact H
              clear H
              have H := H1
              clear H1
              obtain ⟨y237, hy237⟩ : ∃ y_ : List ByteArray, y_ = (([] : List ByteArray)) := ⟨_, rfl⟩
              replace H : (some y237) = some r := by first | (rw [hy237]; with_reducible exact H) | (have H2_ := (Option.bind_some _ _).symm.trans H; rw [hy237]; with_reducible exact H2_) | (have H2_ := (Option.bind_some _ _).symm.trans H; with_reducible exact H2_) | with_reducible exact H | (rw [hy237]; exact H) | exact H
              have Ny237 := Aside0.mk hy237
              clear hy237
              as_aux_lemma =>
                obtain rfl := Option.some.inj H
                go_wp2_with (first | ((with_reducible refine gate_dst (N := 62) rfl ?_); (try (refine gate_guard (by rfl) ?_; dsimp only)); refine Kd.R_lit Kd.string _ 9 ?hg (N := 62) ?hd (xs := ([] : List ByteArray)) (inner := []) (ok := fun _ => True) (okp := fun _ => True) ?hr ?hp (fun _ hk => hk) trivial (Below.refl _ _) (Nat.le_refl _) (by simp) ?_; (case hd => rfl); (case hg => rfl); (case hr => first | (go_simp; done) | (go_simp; rfl)); (case hp => exact (Reps.none _ _)); intro v238 w36 ho37 hb hg_ hnew_; clear hg_ hnew_; (first | rw [← Ny237.out] at ho37 | (simp only [Int.reduceToNat] at ho37; rw [← Ny237.out] at ho37)); have n0_ := Aside0.mk (Kd.R_elder' (by (with_reducible repeat (first | apply Kd.R_alloc | apply Kd.R_drewN | apply Kd.R_drew)); exact HO_7.out) (Kd.R_base ho37) hb); have n1_ := Aside0.mk (Kd.R_lower (Kd.R_new' ho37 (Kd.R_lt (by (with_reducible repeat (first | apply Kd.R_alloc | apply Kd.R_drewN | apply Kd.R_drew)); exact HO_7.out))) (below_size (by repeat (first | (with_reducible first | exact HB.out | apply below_alloc | apply pw_below_drewN | apply below_drew1) | exact HB.out)))); have n2_ := Aside0.mk (below_step (by repeat (first | (with_reducible first | exact HB.out | apply below_alloc | apply pw_below_drewN | apply below_drew1) | exact HB.out)) hb); clear HO_7; clear HB; have HO_7 := n0_; have HO239 := n1_; have HB := n2_; clear n0_ n1_ n2_; clear hb ho37))
                go_ret
                exact ⟨_, by first | rfl | (simp [errW_none, errW_some] <;> rfl) | (simp [*, errW_none, errW_some] <;> rfl), by (with_reducible repeat (first | apply Kd.R_alloc | apply Kd.R_drewN | apply Kd.R_drew)); exact Kd.R_mono HO239.out (fun _ hk => trivial), by repeat (first | (with_reducible first | exact HB.out | apply below_alloc | apply pw_below_drewN | apply below_drew1) | exact HB.out)⟩
            · replace c35 := Bool.eq_false_iff.mpr c35
              subst c35
              have H1 : (if x7_4.length < 8796093022208 then (some (x7_4 ++ [x0_4])) else (none)) = some r := by rw [if_neg (show ¬ (false = true) by decide)] at H; exact H
              clear H
              have H := H1
              clear H1
              by_cases c38 : x7_4.length < 8796093022208
              · rw [if_pos c38] at H
                have LMc38 := Aside0.mk c38
                clear c38
                obtain ⟨y240, hy240⟩ : ∃ y_ : List ByteArray, y_ = (x7_4 ++ [x0_4]) := ⟨_, rfl⟩
                replace H : (some y240) = some r := by first | (rw [hy240]; with_reducible exact H) | (have H2_ := (Option.bind_some _ _).symm.trans H; rw [hy240]; with_reducible exact H2_) | (have H2_ := (Option.bind_some _ _).symm.trans H; with_reducible exact H2_) | with_reducible exact H | (rw [hy240]; exact H) | exact H
                have Ny240 := Aside0.mk hy240
                clear hy240
                as_aux_lemma =>
                  obtain rfl := Option.some.inj H
                  go_wp2_with (first | ((with_reducible refine gate_builtin (b := .append) (xs := #[.tmp 63, .tmp 65]) rfl ?_); (try (refine gate_guard (by rfl) ?_; dsimp only)); at_builtin; refine Kd.R_append Kd.string (w0 := w) w.heap.size rfl (.tmp 63) (.tmp 65) 62 9 (.string ⟨#[]⟩) 16 rfl Tryd.underlying62 info9 rfl (by decide) (by omega) u7 x7_4 x0_4 [.string x0_4] (fun _ => True) (fun _ => False) rfl rfl ?aP (fun _ hk => hk.elim) ?aF ?aO ?aB ?aS ?aL ?_; (case aP => exact rfl); (case aB => exact (by repeat (first | (with_reducible first | exact HB.out | apply below_alloc | apply pw_below_drewN | apply below_drew1) | exact HB.out))); (case aF => exact (fun _ _ => trivial)); (case aO => exact (by (with_reducible repeat (first | apply Kd.R_alloc | apply Kd.R_drewN | apply Kd.R_drew)); exact HO_7.out)); (case aS => exact (below_size (by repeat (first | (with_reducible first | exact HB.out | apply below_alloc | apply pw_below_drewN | apply below_drew1) | exact HB.out)))); (case aL => have := LMc38.out; omega); intro v241 w39 ho hb hg hat; rw [← Ny240.out] at ho; have n0_ := Aside0.mk (hb); have n1_ := Aside0.mk (ho); clear HB; clear HO_7; have HB := n0_; have HO242 := n1_; clear n0_ n1_; clear ho hb hg hat))
                  go_ret
                  exact ⟨_, by first | rfl | (simp [errW_none, errW_some] <;> rfl) | (simp [*, errW_none, errW_some] <;> rfl), by (with_reducible repeat (first | apply Kd.R_alloc | apply Kd.R_drewN | apply Kd.R_drew)); exact HO242.out, by repeat (first | (with_reducible first | exact HB.out | apply below_alloc | apply pw_below_drewN | apply below_drew1) | exact HB.out)⟩
              · rw [if_neg c38] at H
                exact absurd H (by simp)

/-! ### semver_zzContains: function 55 -/
def semver_zzContains.f (k : Nat) (a0 : ByteArray) (a1 : ByteArray) : Option (Bool) := (semver_zzIndex.f k a0 a1).bind fun t243 => (some (decide (t243 ≥ 0)))
theorem semver_zzContains.mono : ∀ a0 a1 k, LeO (semver_zzContains.f k a0 a1) (semver_zzContains.f (k + 1) a0 a1) := by
  intro a0 a1 k
  unfold semver_zzContains.f
  repeat' first
      | (with_reducible exact semver_zzIndex.mono _ _ _)
      | (with_reducible exact LeO.refl _)
      | (with_reducible exact LeO.none _)
      | (with_reducible refine LeO.ite ?_ ?_)
      | (with_reducible refine LeO.bind ?_ (fun _ => ?_))
      | exact semver_zzIndex.mono _ _ _
      | exact LeO.none _
      | refine LeO.ite ?_ ?_
      | refine LeO.bind ?_ (fun _ => ?_)
set_option maxHeartbeats 8000000 in
set_option maxRecDepth 100000 in
theorem semver_zzContains.calls (k : Nat) (a0 : ByteArray) (a1 : ByteArray) (r : Bool) (w : World) (h : semver_zzContains.f k a0 a1 = some r) :
    Calls Tryd.prog 55 #[.string a0, .string a1] w fun e w' => e = .returned (.bool r) ∧ Drawn0 w w' := by
  have H : ((semver_zzIndex.f k a0 a1).bind fun t243 => (some (decide (t243 ≥ 0)))) = some r := h
  clear h
  replace H := Option.bind_eq_some_iff.mp H
  obtain ⟨t243, A30, H⟩ := H
  replace H : (some (decide (t243 ≥ 0))) = some r := H
  have A3 := Aside0.mk A30
  clear A30
  as_aux_lemma =>
    obtain rfl := Option.some.inj H
    go_enter Tryd.func55, Tryd.ntmps55
    go_wp2_with (first | ((with_reducible refine gate_callee (f := 70) rfl ?_); refine goesL_ (some 7) rfl rfl Tryd.func70 (by kernel_rfl) rfl #[.string a0, .string a1] rfl (by (try simp only [List.map_toArray, List.map_cons, List.map_nil]); first | done | rfl | (simp only [List.length_drop, List.length_take]; rfl)) ?_; (with_reducible refine (semver_zzIndex.calls k a0 a1 t243 _ A3.out).mono ?_); rintro e w' ⟨rfl, ⟨nd, rfl⟩⟩; refine ⟨_, rfl, ?_⟩))
    go_ret
    exact ⟨by first | rfl | (simp only [bytesLe_not]; done) | (simp; done) | (simp [*]; done), by repeat (first | exact Drawn0.refl _ | apply Drawn0.step)⟩

-- NOT PRINTED: function 39 (semver_StrictNewVersion)

-- NOT PRINTED: function 16 (impl_SemverStrict)

end Go.Proofs.YtlhijjfbcgconaaDoor.P

