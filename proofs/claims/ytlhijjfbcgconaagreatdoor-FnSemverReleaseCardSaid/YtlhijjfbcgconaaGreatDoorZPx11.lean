-- WRITTEN by xprint.py (a program of this session, over the kit's print) out of the translation. Not trusted: Lean checks it.
import Derived.Test.YtlhijjfbcgconaaGreatDoorZPx0
import Derived.Test.YtlhijjfbcgconaaGreatDoorZPx9
import Derived.Test.YtlhijjfbcgconaaGreatDoorZPx10
namespace Go.Proofs.YtlhijjfbcgconaaGreatDoor.P
open Go.RowKit Go.Proofs.YtlhijjfbcgconaaGreatDoorW.PrintWords Go.Proofs.YtlhijjfbcgconaaGreatDoorW.PrintLast Go.Proofs.YtlhijjfbcgconaaGreatDoorW.PrintMore
attribute [local go_sem] max2_int min2_int max_two min_two max_three min_three max_four min_four run_store_float   -- for this text's walks alone
set_option linter.unusedVariables false
set_option linter.unusedSimpArgs false

/-! ### semver_zzReplace: function 32 -/
mutual
def semver_zzReplace.l0 : Nat → ByteArray → ByteArray → ByteArray → Int → List Int → Int → Int → Option (ByteArray)
  | 0, _, _, _, _, _, _, _ => none
  | k + 1, x0, x1, x2, x3, x9, x10, x11 => if x3 < 0 then (semver_zzReplace.j1 k x0 x1 x2 x3 x9 x10 x11 true) else (semver_zzReplace.j1 k x0 x1 x2 x3 x9 x10 x11 (decide (x11 < x3)))
def semver_zzReplace.j1 : Nat → ByteArray → ByteArray → ByteArray → Int → List Int → Int → Int → Bool → Option (ByteArray)
  | 0, _, _, _, _, _, _, _, _ => none
  | k + 1, x0, x1, x2, x3, x9, x10, x11, x22 => if x22 = true then (if (x1.size : Int) = 0 then (none) else (if 0 ≤ x10 then (if x10 ≤ (x0.size : Int) then ((semver_zzIndex.f k (x0.extract (x10 : Int).toNat x0.size) x1).bind fun t167 => (if t167 < 0 then (if x9.length + (x0.extract (x10 : Int).toNat x0.size).size < 140737488355328 then (some (strOfNums (x9 ++ bytesOf (x0.extract (x10 : Int).toNat x0.size)))) else (none)) else (if x10 ≤ (wrap64 (x10 + t167)) then (if (wrap64 (x10 + t167)) ≤ (x0.size : Int) then (if x9.length + (x0.extract (x10 : Int).toNat ((wrap64 (x10 + t167)) : Int).toNat).size < 140737488355328 then ((some (x9 ++ bytesOf (x0.extract (x10 : Int).toNat ((wrap64 (x10 + t167)) : Int).toNat) : List Int)).bind fun y171 => (if y171.length + x2.size < 140737488355328 then (semver_zzReplace.l0 k x0 x1 x2 x3 (y171 ++ bytesOf x2) (wrap64 ((wrap64 (x10 + t167)) + (x1.size : Int))) (wrap64 (x11 + 1))) else (none))) else (none)) else (none)) else (none)))) else (none)) else (none))) else (if 0 ≤ x10 then (if x10 ≤ (x0.size : Int) then (if x9.length + (x0.extract (x10 : Int).toNat x0.size).size < 140737488355328 then (some (strOfNums (x9 ++ bytesOf (x0.extract (x10 : Int).toNat x0.size)))) else (none)) else (none)) else (none))
end
def semver_zzReplace.f (k : Nat) (a0 : ByteArray) (a1 : ByteArray) (a2 : ByteArray) (a3 : Int) : Option (ByteArray) := semver_zzReplace.l0 k a0 a1 a2 a3 ([] : List Int) 0 0
theorem semver_zzReplace.mono_l : ∀ k, (∀ y0 y1 y2 y3 y4 y5 y6, LeO (semver_zzReplace.l0 k y0 y1 y2 y3 y4 y5 y6) (semver_zzReplace.l0 (k + 1) y0 y1 y2 y3 y4 y5 y6)) ∧ (∀ y0 y1 y2 y3 y4 y5 y6 y7, LeO (semver_zzReplace.j1 k y0 y1 y2 y3 y4 y5 y6 y7) (semver_zzReplace.j1 (k + 1) y0 y1 y2 y3 y4 y5 y6 y7))
  | 0 => ⟨fun _ _ _ _ _ _ _ r h => by simp [semver_zzReplace.l0] at h, fun _ _ _ _ _ _ _ _ r h => by simp [semver_zzReplace.j1] at h⟩
  | k + 1 => by
    obtain ⟨ih0, ih1⟩ := semver_zzReplace.mono_l k
    refine ⟨?_, ?_⟩
    · intro y0 y1 y2 y3 y4 y5 y6
      unfold semver_zzReplace.l0
      repeat' first
      | (with_reducible exact ih0 _ _ _ _ _ _ _)
      | (with_reducible exact ih1 _ _ _ _ _ _ _ _)
      | (with_reducible exact semver_zzIndex.mono _ _ _)
      | (with_reducible exact LeO.refl _)
      | (with_reducible exact LeO.none _)
      | (with_reducible refine LeO.ite ?_ ?_)
      | (with_reducible refine LeO.bind ?_ (fun _ => ?_))
      | exact ih0 _ _ _ _ _ _ _
      | exact ih1 _ _ _ _ _ _ _ _
      | exact semver_zzIndex.mono _ _ _
      | exact LeO.none _
      | refine LeO.ite ?_ ?_
      | refine LeO.bind ?_ (fun _ => ?_)
    · intro y0 y1 y2 y3 y4 y5 y6 y7
      unfold semver_zzReplace.j1
      repeat' first
      | (with_reducible exact ih0 _ _ _ _ _ _ _)
      | (with_reducible exact ih1 _ _ _ _ _ _ _ _)
      | (with_reducible exact semver_zzIndex.mono _ _ _)
      | (with_reducible exact LeO.refl _)
      | (with_reducible exact LeO.none _)
      | (with_reducible refine LeO.ite ?_ ?_)
      | (with_reducible refine LeO.bind ?_ (fun _ => ?_))
      | exact ih0 _ _ _ _ _ _ _
      | exact ih1 _ _ _ _ _ _ _ _
      | exact semver_zzIndex.mono _ _ _
      | exact LeO.none _
      | refine LeO.ite ?_ ?_
      | refine LeO.bind ?_ (fun _ => ?_)
theorem semver_zzReplace.mono : ∀ a0 a1 a2 a3 k, LeO (semver_zzReplace.f k a0 a1 a2 a3) (semver_zzReplace.f (k + 1) a0 a1 a2 a3) := by
  intro a0 a1 a2 a3 k
  obtain ⟨ih0, ih1⟩ := semver_zzReplace.mono_l k
  unfold semver_zzReplace.f
  repeat' first
      | (with_reducible exact ih0 _ _ _ _ _ _ _)
      | (with_reducible exact ih1 _ _ _ _ _ _ _ _)
      | (with_reducible exact semver_zzIndex.mono _ _ _)
      | (with_reducible exact LeO.refl _)
      | (with_reducible exact LeO.none _)
      | (with_reducible refine LeO.ite ?_ ?_)
      | (with_reducible refine LeO.bind ?_ (fun _ => ?_))
      | exact ih0 _ _ _ _ _ _ _
      | exact ih1 _ _ _ _ _ _ _ _
      | exact semver_zzIndex.mono _ _ _
      | exact LeO.none _
      | refine LeO.ite ?_ ?_
      | refine LeO.bind ?_ (fun _ => ?_)
set_option maxHeartbeats 8000000 in
set_option maxRecDepth 100000 in
theorem semver_zzReplace.calls (k : Nat) (a0 : ByteArray) (a1 : ByteArray) (a2 : ByteArray) (a3 : Int) (r : ByteArray) (w : World) (h : semver_zzReplace.f k a0 a1 a2 a3 = some r) (HT0U : TabsU w) :
    Calls Tryz.prog 32 #[.string a0, .string a1, .string a2, .int .i64 a3] w fun e w' => e = .returned (.string r) ∧ Below w.heap.size w w' := by
  have HTU := Aside0.mk HT0U
  clear HT0U
  have HB := Aside0.mk (Below.refl w.heap.size w)
  have H : (semver_zzReplace.l0 k a0 a1 a2 a3 ([] : List Int) 0 0) = some r := h
  clear h
  have H' := Aside0.mk H
  clear H
  go_enter Tryz.func32, Tryz.ntmps32
  go_wp2
  go_loopg [9, 10, 11] k (fun kq v9 v10 v11 w' => ∃ (x9_1 : List Int) (x10_1 : Int) (x11_1 : Int), v10 = .int .i64 x10_1 ∧ v11 = .int .i64 x11_1 ∧ Aside0 (semver_zzReplace.l0 kq a0 a1 a2 a3 x9_1 x10_1 x11_1 = some r) ∧ Aside0 (kq ≤ k) ∧ Aside0 (Kd.R (Kd.int .u8) 5 w' w.heap.size (fun _ => True) v9 x9_1) ∧ Aside0 (Below w.heap.size w w'))
  case atStart => exact ⟨(([] : List Int)), (0), (0), (by first | rfl | (simp only [bytesLe_not]; done) | (simp; done) | (simp [*]; done)), (by first | rfl | (simp only [bytesLe_not]; done) | (simp; done) | (simp [*]; done)), H', ⟨Nat.le_refl _⟩, ⟨by first | exact Kd.R_nil _ _ _ _ _ | exact Kd.N_nil _ _ _ _ _ | exact Kd.V_nil _ _ _ _ _ | exact Kd.Q_nil _ _ _ _ _ | exact Kd.S_nil _ _ _ _ _⟩, ⟨by repeat (first | (with_reducible first | exact HB.out | apply below_alloc | apply pw_below_drewN | apply below_drew1) | exact HB.out)⟩⟩
  case round =>
    clear H'
    try clear p2
    try clear c3
    obtain ⟨x9_1, x10_1, x11_1, rfl, rfl, HA, HK1, HO_9, HB⟩ := hrel
    cases gk with
    | zero => exact absurd HA.out (by simp [semver_zzReplace.l0])
    | succ k1 =>
      have H := HA.out
      clear HA
      simp only [semver_zzReplace.l0] at H
      have HC5 := Aside0.mk H
      clear H
      go_upto_region 4 with (fail)
      go_cut [22] (fun v22 wc => ∃ (kq : Nat) (x22_4 : Bool), v22 = .bool x22_4 ∧ Aside0 (semver_zzReplace.j1 kq a0 a1 a2 a3 x9_1 x10_1 x11_1 x22_4 = some r) ∧ Aside0 (kq ≤ k1) ∧ Aside0 (Kd.R (Kd.int .u8) 5 wc w.heap.size (fun _ => True) u9 x9_1) ∧ Aside0 (Below w.heap.size w wc))
      case first =>
        have H := HC5.out
        clear HC5
        by_cases c6 : a3 < 0
        · rw [if_pos c6] at H
          have c6b0 : decide (a3 < 0) = true := decide_eq_true c6
          clear c6
          (first | rw [c6b0] | (simp only [i64_w, i32_w]; rw [c6b0]) | skip)
          as_aux_lemma =>
            have H' := Aside0.mk H
            clear H
            go_wp2
            go_meet
            case rel => exact ⟨_, (true), (by first | rfl | (simp only [bytesLe_not]; done) | (simp; done) | (simp [*]; done)), H', ⟨by have := HK1.out; first | omega | exact Nat.le_refl _⟩, ⟨by (with_reducible repeat (first | apply Kd.R_alloc | apply Kd.R_drewN | apply Kd.R_drew)); exact HO_9.out⟩, ⟨by repeat (first | (with_reducible first | exact HB.out | apply below_alloc | apply pw_below_drewN | apply below_drew1) | exact HB.out)⟩⟩
        · rw [if_neg c6] at H
          have c6b0 : decide (a3 < 0) = false := decide_eq_false c6
          clear c6
          (first | rw [c6b0] | (simp only [i64_w, i32_w]; rw [c6b0]) | skip)
          as_aux_lemma =>
            have H' := Aside0.mk H
            clear H
            go_wp2
            go_meet
            case rel => exact ⟨_, (decide (x11_1 < a3)), (by first | rfl | (simp only [bytesLe_not]; done) | (simp; done) | (simp [*]; done)), H', ⟨by have := HK1.out; first | omega | exact Nat.le_refl _⟩, ⟨by (with_reducible repeat (first | apply Kd.R_alloc | apply Kd.R_drewN | apply Kd.R_drew)); exact HO_9.out⟩, ⟨by repeat (first | (with_reducible first | exact HB.out | apply below_alloc | apply pw_below_drewN | apply below_drew1) | exact HB.out)⟩⟩
      case rest =>
        clear HC5
        try clear p2
        try clear c3
        try clear c6
        try clear c6b0
        try clear p2
        obtain ⟨kq, x22_4, rfl, HA, HJ4, HO_9, HB⟩ := hcut
        cases kq with
        | zero => exact absurd HA.out (by simp [semver_zzReplace.j1])
        | succ kj4 =>
          have H := HA.out
          clear HA
          simp only [semver_zzReplace.j1] at H
          by_cases c7 : x22_4 = true
          · subst c7
            have H1 : (if (a1.size : Int) = 0 then (none) else (if 0 ≤ x10_1 then (if x10_1 ≤ (a0.size : Int) then ((semver_zzIndex.f kj4 (a0.extract (x10_1 : Int).toNat a0.size) a1).bind fun t167 => (if t167 < 0 then (if x9_1.length + (a0.extract (x10_1 : Int).toNat a0.size).size < 140737488355328 then (some (strOfNums (x9_1 ++ bytesOf (a0.extract (x10_1 : Int).toNat a0.size)))) else (none)) else (if x10_1 ≤ (wrap64 (x10_1 + t167)) then (if (wrap64 (x10_1 + t167)) ≤ (a0.size : Int) then (if x9_1.length + (a0.extract (x10_1 : Int).toNat ((wrap64 (x10_1 + t167)) : Int).toNat).size < 140737488355328 then ((some (x9_1 ++ bytesOf (a0.extract (x10_1 : Int).toNat ((wrap64 (x10_1 + t167)) : Int).toNat) : List Int)).bind fun y171 => (if y171.length + a2.size < 140737488355328 then (semver_zzReplace.l0 kj4 a0 a1 a2 a3 (y171 ++ bytesOf a2) (wrap64 ((wrap64 (x10_1 + t167)) + (a1.size : Int))) (wrap64 (x11_1 + 1))) else (none))) else (none)) else (none)) else (none)))) else (none)) else (none))) = some r := by rw [if_pos rfl] at H; exact H
            clear H
            have H := H1
            clear H1
            by_cases c8 : (a1.size : Int) = 0
            · rw [if_pos c8] at H
              exact absurd H (by simp)
            · rw [if_neg c8] at H
              have c8b0 : ((a1.size : Int) == 0) = false := beq_eq_false_iff_ne.mpr c8
              have c8b1 : ((a1.size : Int) != 0) = true := bne_iff_ne.mpr c8
              by_cases c34 : 0 ≤ x10_1
              · rw [if_pos c34] at H
                have c34b0 := eq_true c34
                have c34b1 : decide (0 ≤ x10_1) = true := decide_eq_true c34
                clear c34
                by_cases c35 : x10_1 ≤ (a0.size : Int)
                · rw [if_pos c35] at H
                  have c35b0 := eq_true c35
                  have c35b1 : decide (x10_1 ≤ (a0.size : Int)) = true := decide_eq_true c35
                  clear c35
                  replace H := Option.bind_eq_some_iff.mp H
                  obtain ⟨t167, A360, H⟩ := H
                  replace H : (if t167 < 0 then (if x9_1.length + (a0.extract (x10_1 : Int).toNat a0.size).size < 140737488355328 then (some (strOfNums (x9_1 ++ bytesOf (a0.extract (x10_1 : Int).toNat a0.size)))) else (none)) else (if x10_1 ≤ (wrap64 (x10_1 + t167)) then (if (wrap64 (x10_1 + t167)) ≤ (a0.size : Int) then (if x9_1.length + (a0.extract (x10_1 : Int).toNat ((wrap64 (x10_1 + t167)) : Int).toNat).size < 140737488355328 then ((some (x9_1 ++ bytesOf (a0.extract (x10_1 : Int).toNat ((wrap64 (x10_1 + t167)) : Int).toNat) : List Int)).bind fun y171 => (if y171.length + a2.size < 140737488355328 then (semver_zzReplace.l0 kj4 a0 a1 a2 a3 (y171 ++ bytesOf a2) (wrap64 ((wrap64 (x10_1 + t167)) + (a1.size : Int))) (wrap64 (x11_1 + 1))) else (none))) else (none)) else (none)) else (none))) = some r := H
                  have A36 := Aside0.mk A360
                  clear A360
                  by_cases c37 : t167 < 0
                  · rw [if_pos c37] at H
                    have c37b0 : decide (t167 < 0) = true := decide_eq_true c37
                    clear c37
                    have c38b0 := eq_true (of_decide_eq_true (by first | (with_reducible assumption) | assumption) : 0 ≤ x10_1)
                    have c39b0 := eq_true (of_decide_eq_true (by first | (with_reducible assumption) | assumption) : x10_1 ≤ (a0.size : Int))
                    by_cases c40 : x9_1.length + (a0.extract (x10_1 : Int).toNat a0.size).size < 140737488355328
                    · rw [if_pos c40] at H
                      have LMc40 := Aside0.mk c40
                      clear c40
                      obtain ⟨y168, hy168⟩ : ∃ y_ : List Int, y_ = (x9_1 ++ bytesOf (a0.extract (x10_1 : Int).toNat a0.size)) := ⟨_, rfl⟩
                      replace H : (some (strOfNums y168)) = some r := by first | (rw [hy168]; with_reducible exact H) | (have H2_ := (Option.bind_some _ _).symm.trans H; rw [hy168]; with_reducible exact H2_) | (have H2_ := (Option.bind_some _ _).symm.trans H; with_reducible exact H2_) | with_reducible exact H | (rw [hy168]; exact H) | exact H
                      have Ny168 := Aside0.mk hy168
                      clear hy168
                      as_aux_lemma =>
                        obtain rfl := Option.some.inj H
                        go_wp2_with (first | ((with_reducible refine gate_callee (f := 33) rfl ?_); refine goesL_ (some 49) rfl rfl Tryz.func33 (by kernel_rfl) rfl #[.string (a0.extract (x10_1 : Int).toNat a0.size), .string a1] rfl (by (try simp only [List.map_toArray, List.map_cons, List.map_nil]); first | done | rfl | (simp only [List.length_drop, List.length_take]; rfl)) ?_; (with_reducible refine (semver_zzIndex.calls kj4 (a0.extract (x10_1 : Int).toNat a0.size) a1 t167 _ A36.out).mono ?_); rintro e w' ⟨rfl, ⟨nd, rfl⟩⟩; refine ⟨_, rfl, ?_⟩) | (at_builtin; refine print_append_str (w0 := w) w.heap.size rfl (.tmp 68) _ 87 9 5 rfl Tryz.underlying87 Tryz.underlying9 info5 u9 x9_1 (a0.extract (x10_1 : Int).toNat a0.size) rfl rfl ?aO ?aB ?aS ?aL ?_; (case aB => exact (by repeat (first | (with_reducible first | exact HB.out | apply below_alloc | apply pw_below_drewN | apply below_drew1) | exact HB.out))); (case aO => exact (Kd.own_of_R (by (with_reducible repeat (first | apply Kd.R_alloc | apply Kd.R_drewN | apply Kd.R_drew)); exact HO_9.out))); (case aS => exact (below_size (by repeat (first | (with_reducible first | exact HB.out | apply below_alloc | apply pw_below_drewN | apply below_drew1) | exact HB.out)))); (case aL => have := LMc40.out; omega); intro v169 w41 ho0 hb hg; have ho := Kd.R_of_own (h1 := fun _ => rfl) (ok := fun _ => True) ho0 (fun _ _ => trivial); clear ho0; have hat := True.intro; rw [← Ny168.out] at ho; change Kd.R (Kd.int .u8) 5 w41 w.heap.size (fun _ => True) v169 y168 at ho; have n0_ := Aside0.mk (hb); have n1_ := Aside0.mk (ho); clear HB; clear HO_9; have HB := n0_; have HO170 := n1_; clear n0_ n1_; clear ho hb hg hat; have hcv42 := own_string (P := Tryz.prog) Tryz.underlying87 Tryz.underlying5 Tryz.underlying9 (Kd.own_of_R HO170.out)))
                        go_ret
                        exact ⟨by first | rfl | (simp [errW_none, errW_some] <;> rfl) | (simp [*, errW_none, errW_some] <;> rfl), by repeat (first | (with_reducible first | exact HB.out | apply below_alloc | apply pw_below_drewN | apply below_drew1) | exact HB.out)⟩
                    · rw [if_neg c40] at H
                      exact absurd H (by simp)
                  · rw [if_neg c37] at H
                    have c37b0 : decide (t167 < 0) = false := decide_eq_false c37
                    clear c37
                    have c43b0 := eq_true (of_decide_eq_true (by first | (with_reducible assumption) | assumption) : 0 ≤ x10_1)
                    by_cases c44 : x10_1 ≤ (wrap64 (x10_1 + t167))
                    · rw [if_pos c44] at H
                      have c44b0 := eq_true c44
                      have c44b1 : decide (x10_1 ≤ (wrap64 (x10_1 + t167))) = true := decide_eq_true c44
                      by_cases c45 : (wrap64 (x10_1 + t167)) ≤ (a0.size : Int)
                      · rw [if_pos c45] at H
                        have c45b0 := eq_true c45
                        have c45b1 : decide ((wrap64 (x10_1 + t167)) ≤ (a0.size : Int)) = true := decide_eq_true c45
                        by_cases c46 : x9_1.length + (a0.extract (x10_1 : Int).toNat ((wrap64 (x10_1 + t167)) : Int).toNat).size < 140737488355328
                        · rw [if_pos c46] at H
                          have LMc46 := Aside0.mk c46
                          clear c46
                          obtain ⟨y171, hy171⟩ : ∃ y_ : List Int, y_ = (x9_1 ++ bytesOf (a0.extract (x10_1 : Int).toNat ((wrap64 (x10_1 + t167)) : Int).toNat)) := ⟨_, rfl⟩
                          replace H : (if y171.length + a2.size < 140737488355328 then (semver_zzReplace.l0 kj4 a0 a1 a2 a3 (y171 ++ bytesOf a2) (wrap64 ((wrap64 (x10_1 + t167)) + (a1.size : Int))) (wrap64 (x11_1 + 1))) else (none)) = some r := by first | (rw [hy171]; with_reducible exact H) | (have H2_ := (Option.bind_some _ _).symm.trans H; rw [hy171]; with_reducible exact H2_) | (have H2_ := (Option.bind_some _ _).symm.trans H; with_reducible exact H2_) | with_reducible exact H | (rw [hy171]; exact H) | exact H
                          have Ny171 := Aside0.mk hy171
                          clear hy171
                          by_cases c47 : y171.length + a2.size < 140737488355328
                          · rw [if_pos c47] at H
                            have LMc47 := Aside0.mk c47
                            clear c47
                            obtain ⟨y174, hy174⟩ : ∃ y_ : List Int, y_ = (y171 ++ bytesOf a2) := ⟨_, rfl⟩
                            replace H : (semver_zzReplace.l0 kj4 a0 a1 a2 a3 y174 (wrap64 ((wrap64 (x10_1 + t167)) + (a1.size : Int))) (wrap64 (x11_1 + 1))) = some r := by first | (rw [hy174]; with_reducible exact H) | (have H2_ := (Option.bind_some _ _).symm.trans H; rw [hy174]; with_reducible exact H2_) | (have H2_ := (Option.bind_some _ _).symm.trans H; with_reducible exact H2_) | with_reducible exact H | (rw [hy174]; exact H) | exact H
                            have Ny174 := Aside0.mk hy174
                            clear hy174
                            as_aux_lemma =>
                              have H' := Aside0.mk H
                              clear H
                              go_wp2_with (first | ((with_reducible refine gate_callee (f := 33) rfl ?_); refine goesL_ (some 49) rfl rfl Tryz.func33 (by kernel_rfl) rfl #[.string (a0.extract (x10_1 : Int).toNat a0.size), .string a1] rfl (by (try simp only [List.map_toArray, List.map_cons, List.map_nil]); first | done | rfl | (simp only [List.length_drop, List.length_take]; rfl)) ?_; (with_reducible refine (semver_zzIndex.calls kj4 (a0.extract (x10_1 : Int).toNat a0.size) a1 t167 _ A36.out).mono ?_); rintro e w' ⟨rfl, ⟨nd, rfl⟩⟩; refine ⟨_, rfl, ?_⟩) | (at_builtin; refine print_append_str (w0 := w) w.heap.size rfl (.tmp 55) _ 87 9 5 rfl Tryz.underlying87 Tryz.underlying9 info5 u9 x9_1 (a0.extract (x10_1 : Int).toNat ((wrap64 (x10_1 + t167)) : Int).toNat) rfl rfl ?aO ?aB ?aS ?aL ?_; (case aB => exact (by repeat (first | (with_reducible first | exact HB.out | apply below_alloc | apply pw_below_drewN | apply below_drew1) | exact HB.out))); (case aO => exact (Kd.own_of_R (by (with_reducible repeat (first | apply Kd.R_alloc | apply Kd.R_drewN | apply Kd.R_drew)); exact HO_9.out))); (case aS => exact (below_size (by repeat (first | (with_reducible first | exact HB.out | apply below_alloc | apply pw_below_drewN | apply below_drew1) | exact HB.out)))); (case aL => have := LMc46.out; omega); intro v172 w48 ho0 hb hg; have ho := Kd.R_of_own (h1 := fun _ => rfl) (ok := fun _ => True) ho0 (fun _ _ => trivial); clear ho0; have hat := True.intro; rw [← Ny171.out] at ho; change Kd.R (Kd.int .u8) 5 w48 w.heap.size (fun _ => True) v172 y171 at ho; have n0_ := Aside0.mk (hb); have n1_ := Aside0.mk (ho); clear HB; clear HO_9; have HB := n0_; have HO173 := n1_; clear n0_ n1_; clear ho hb hg hat) | (at_builtin; refine print_append_str (w0 := w) w.heap.size rfl (.tmp 61) _ 87 9 5 rfl Tryz.underlying87 Tryz.underlying9 info5 v172 y171 a2 rfl rfl ?aO ?aB ?aS ?aL ?_; (case aB => exact (by repeat (first | (with_reducible first | exact HB.out | apply below_alloc | apply pw_below_drewN | apply below_drew1) | exact HB.out))); (case aO => exact (Kd.own_of_R (by (with_reducible repeat (first | apply Kd.R_alloc | apply Kd.R_drewN | apply Kd.R_drew)); exact HO173.out))); (case aS => exact (below_size (by repeat (first | (with_reducible first | exact HB.out | apply below_alloc | apply pw_below_drewN | apply below_drew1) | exact HB.out)))); (case aL => have := LMc47.out; omega); intro v175 w49 ho0 hb hg; have ho := Kd.R_of_own (h1 := fun _ => rfl) (ok := fun _ => True) ho0 (fun _ _ => trivial); clear ho0; have hat := True.intro; rw [← Ny174.out] at ho; change Kd.R (Kd.int .u8) 5 w49 w.heap.size (fun _ => True) v175 y174 at ho; have n0_ := Aside0.mk (hb); have n1_ := Aside0.mk (ho); clear HB; clear HO173; have HB := n0_; have HO176 := n1_; clear n0_ n1_; clear ho hb hg hat))
                              go_roundg kj4
                              case measure => have := HK1.out; have := HJ4.out; omega
                              case rel => exact ⟨(y174), (wrap64 ((wrap64 (x10_1 + t167)) + (a1.size : Int))), (wrap64 (x11_1 + 1)), (by first | rfl | (simp only [bytesLe_not]; done) | (simp; done) | (simp [*]; done)), (by first | rfl | (simp only [bytesLe_not]; done) | (simp; done) | (simp [*]; done)), H', ⟨by have := HK1.out; have := HJ4.out; omega⟩, ⟨by (with_reducible repeat (first | apply Kd.R_alloc | apply Kd.R_drewN | apply Kd.R_drew)); exact HO176.out⟩, ⟨by repeat (first | (with_reducible first | exact HB.out | apply below_alloc | apply pw_below_drewN | apply below_drew1) | exact HB.out)⟩⟩
                          · rw [if_neg c47] at H
                            exact absurd H (by simp)
                        · rw [if_neg c46] at H
                          exact absurd H (by simp)
                      · rw [if_neg c45] at H
                        exact absurd H (by simp)
                    · rw [if_neg c44] at H
                      exact absurd H (by simp)
                · rw [if_neg c35] at H
                  exact absurd H (by simp)
              · rw [if_neg c34] at H
                exact absurd H (by simp)
          · replace c7 := Bool.eq_false_iff.mpr c7
            subst c7
            have H1 : (if 0 ≤ x10_1 then (if x10_1 ≤ (a0.size : Int) then (if x9_1.length + (a0.extract (x10_1 : Int).toNat a0.size).size < 140737488355328 then (some (strOfNums (x9_1 ++ bytesOf (a0.extract (x10_1 : Int).toNat a0.size)))) else (none)) else (none)) else (none)) = some r := by rw [if_neg (show ¬ (false = true) by decide)] at H; exact H
            clear H
            have H := H1
            clear H1
            by_cases c50 : 0 ≤ x10_1
            · rw [if_pos c50] at H
              have c50b0 := eq_true c50
              have c50b1 : decide (0 ≤ x10_1) = true := decide_eq_true c50
              clear c50
              by_cases c51 : x10_1 ≤ (a0.size : Int)
              · rw [if_pos c51] at H
                have c51b0 := eq_true c51
                have c51b1 : decide (x10_1 ≤ (a0.size : Int)) = true := decide_eq_true c51
                clear c51
                by_cases c52 : x9_1.length + (a0.extract (x10_1 : Int).toNat a0.size).size < 140737488355328
                · rw [if_pos c52] at H
                  have LMc52 := Aside0.mk c52
                  clear c52
                  obtain ⟨y147, hy147⟩ : ∃ y_ : List Int, y_ = (x9_1 ++ bytesOf (a0.extract (x10_1 : Int).toNat a0.size)) := ⟨_, rfl⟩
                  replace H : (some (strOfNums y147)) = some r := by first | (rw [hy147]; with_reducible exact H) | (have H2_ := (Option.bind_some _ _).symm.trans H; rw [hy147]; with_reducible exact H2_) | (have H2_ := (Option.bind_some _ _).symm.trans H; with_reducible exact H2_) | with_reducible exact H | (rw [hy147]; exact H) | exact H
                  have Ny147 := Aside0.mk hy147
                  clear hy147
                  as_aux_lemma =>
                    obtain rfl := Option.some.inj H
                    go_wp2_with (first | (at_builtin; refine print_append_str (w0 := w) w.heap.size rfl (.tmp 68) _ 87 9 5 rfl Tryz.underlying87 Tryz.underlying9 info5 u9 x9_1 (a0.extract (x10_1 : Int).toNat a0.size) rfl rfl ?aO ?aB ?aS ?aL ?_; (case aB => exact (by repeat (first | (with_reducible first | exact HB.out | apply below_alloc | apply pw_below_drewN | apply below_drew1) | exact HB.out))); (case aO => exact (Kd.own_of_R (by (with_reducible repeat (first | apply Kd.R_alloc | apply Kd.R_drewN | apply Kd.R_drew)); exact HO_9.out))); (case aS => exact (below_size (by repeat (first | (with_reducible first | exact HB.out | apply below_alloc | apply pw_below_drewN | apply below_drew1) | exact HB.out)))); (case aL => have := LMc52.out; omega); intro v148 w53 ho0 hb hg; have ho := Kd.R_of_own (h1 := fun _ => rfl) (ok := fun _ => True) ho0 (fun _ _ => trivial); clear ho0; have hat := True.intro; rw [← Ny147.out] at ho; change Kd.R (Kd.int .u8) 5 w53 w.heap.size (fun _ => True) v148 y147 at ho; have n0_ := Aside0.mk (hb); have n1_ := Aside0.mk (ho); clear HB; clear HO_9; have HB := n0_; have HO149 := n1_; clear n0_ n1_; clear ho hb hg hat; have hcv54 := own_string (P := Tryz.prog) Tryz.underlying87 Tryz.underlying5 Tryz.underlying9 (Kd.own_of_R HO149.out)))
                    go_ret
                    exact ⟨by first | rfl | (simp [errW_none, errW_some] <;> rfl) | (simp [*, errW_none, errW_some] <;> rfl), by repeat (first | (with_reducible first | exact HB.out | apply below_alloc | apply pw_below_drewN | apply below_drew1) | exact HB.out)⟩
                · rw [if_neg c52] at H
                  exact absurd H (by simp)
              · rw [if_neg c51] at H
                exact absurd H (by simp)
            · rw [if_neg c50] at H
              exact absurd H (by simp)

-- NOT PRINTED: function 22 (semver_rewriteRange)

/-! ### semver_zzSplit: function 23 -/
def semver_zzSplit.l0 : Nat → ByteArray → ByteArray → List ByteArray → Option (List ByteArray)
  | 0, _, _, _ => none
  | k + 1, x0, x1, x5 => (semver_zzIndex.f k x0 x1).bind fun t178 => (if t178 < 0 then (if x5.length < 8796093022208 then (some (x5 ++ [x0])) else (none)) else (if 0 ≤ t178 then (if t178 ≤ (x0.size : Int) then (if x5.length < 8796093022208 then (if 0 ≤ (wrap64 (t178 + (x1.size : Int))) then (if (wrap64 (t178 + (x1.size : Int))) ≤ (x0.size : Int) then (semver_zzSplit.l0 k (x0.extract ((wrap64 (t178 + (x1.size : Int))) : Int).toNat x0.size) x1 (x5 ++ [x0.extract 0 (t178 : Int).toNat])) else (none)) else (none)) else (none)) else (none)) else (none)))
def semver_zzSplit.f (k : Nat) (a0 : ByteArray) (a1 : ByteArray) : Option (List ByteArray) := semver_zzSplit.l0 k a0 a1 ([] : List ByteArray)
theorem semver_zzSplit.mono_l : ∀ k, (∀ y0 y1 y2, LeO (semver_zzSplit.l0 k y0 y1 y2) (semver_zzSplit.l0 (k + 1) y0 y1 y2))
  | 0 => fun _ _ _ r h => by simp [semver_zzSplit.l0] at h
  | k + 1 => by
    have ih0 := semver_zzSplit.mono_l k
    · intro y0 y1 y2
      unfold semver_zzSplit.l0
      repeat' first
      | (with_reducible exact ih0 _ _ _)
      | (with_reducible exact semver_zzIndex.mono _ _ _)
      | (with_reducible exact LeO.refl _)
      | (with_reducible exact LeO.none _)
      | (with_reducible refine LeO.ite ?_ ?_)
      | (with_reducible refine LeO.bind ?_ (fun _ => ?_))
      | exact ih0 _ _ _
      | exact semver_zzIndex.mono _ _ _
      | exact LeO.none _
      | refine LeO.ite ?_ ?_
      | refine LeO.bind ?_ (fun _ => ?_)
theorem semver_zzSplit.mono : ∀ a0 a1 k, LeO (semver_zzSplit.f k a0 a1) (semver_zzSplit.f (k + 1) a0 a1) := by
  intro a0 a1 k
  have ih0 := semver_zzSplit.mono_l k
  unfold semver_zzSplit.f
  repeat' first
      | (with_reducible exact ih0 _ _ _)
      | (with_reducible exact semver_zzIndex.mono _ _ _)
      | (with_reducible exact LeO.refl _)
      | (with_reducible exact LeO.none _)
      | (with_reducible refine LeO.ite ?_ ?_)
      | (with_reducible refine LeO.bind ?_ (fun _ => ?_))
      | exact ih0 _ _ _
      | exact semver_zzIndex.mono _ _ _
      | exact LeO.none _
      | refine LeO.ite ?_ ?_
      | refine LeO.bind ?_ (fun _ => ?_)
set_option maxHeartbeats 8000000 in
set_option maxRecDepth 100000 in
theorem semver_zzSplit.calls (k : Nat) (a0 : ByteArray) (a1 : ByteArray) (r : List ByteArray) (w : World) (h : semver_zzSplit.f k a0 a1 = some r) :
    Calls Tryz.prog 23 #[.string a0, .string a1] w fun e w' => ∃ v0_ : Value, e = .returned (v0_) ∧ Kd.R Kd.string 9 w' w.heap.size (fun _ => True) v0_ r ∧ Below w.heap.size w w' := by
  have HB := Aside0.mk (Below.refl w.heap.size w)
  have H : (semver_zzSplit.l0 k a0 a1 ([] : List ByteArray)) = some r := h
  clear h
  have H' := Aside0.mk H
  clear H
  go_enter Tryz.func23, Tryz.ntmps23
  go_wp2
  go_loopg [0, 5] k (fun kq v0 v5 w' => ∃ (x0_1 : ByteArray) (x5_1 : List ByteArray), v0 = .string x0_1 ∧ Aside0 (semver_zzSplit.l0 kq x0_1 a1 x5_1 = some r) ∧ Aside0 (kq ≤ k) ∧ Aside0 (Kd.R Kd.string 9 w' w.heap.size (fun _ => True) v5 x5_1) ∧ Aside0 (Below w.heap.size w w'))
  case atStart => exact ⟨(a0), (([] : List ByteArray)), (by first | rfl | (simp only [bytesLe_not]; done) | (simp; done) | (simp [*]; done)), H', ⟨Nat.le_refl _⟩, ⟨by first | exact Kd.R_nil _ _ _ _ _ | exact Kd.N_nil _ _ _ _ _ | exact Kd.V_nil _ _ _ _ _ | exact Kd.Q_nil _ _ _ _ _ | exact Kd.S_nil _ _ _ _ _⟩, ⟨by repeat (first | (with_reducible first | exact HB.out | apply below_alloc | apply pw_below_drewN | apply below_drew1) | exact HB.out)⟩⟩
  case round =>
    clear H'
    try clear c2
    try clear p2
    obtain ⟨x0_1, x5_1, rfl, HA, HK1, HO_5, HB⟩ := hrel
    cases gk with
    | zero => exact absurd HA.out (by simp [semver_zzSplit.l0])
    | succ k1 =>
      have H := HA.out
      clear HA
      simp only [semver_zzSplit.l0] at H
      replace H := Option.bind_eq_some_iff.mp H
      obtain ⟨t178, A30, H⟩ := H
      replace H : (if t178 < 0 then (if x5_1.length < 8796093022208 then (some (x5_1 ++ [x0_1])) else (none)) else (if 0 ≤ t178 then (if t178 ≤ (x0_1.size : Int) then (if x5_1.length < 8796093022208 then (if 0 ≤ (wrap64 (t178 + (a1.size : Int))) then (if (wrap64 (t178 + (a1.size : Int))) ≤ (x0_1.size : Int) then (semver_zzSplit.l0 k1 (x0_1.extract ((wrap64 (t178 + (a1.size : Int))) : Int).toNat x0_1.size) a1 (x5_1 ++ [x0_1.extract 0 (t178 : Int).toNat])) else (none)) else (none)) else (none)) else (none)) else (none))) = some r := H
      have A3 := Aside0.mk A30
      clear A30
      by_cases c4 : t178 < 0
      · rw [if_pos c4] at H
        have c4b0 : decide (t178 < 0) = true := decide_eq_true c4
        clear c4
        by_cases c5 : x5_1.length < 8796093022208
        · rw [if_pos c5] at H
          have LMc5 := Aside0.mk c5
          clear c5
          obtain ⟨y179, hy179⟩ : ∃ y_ : List ByteArray, y_ = (x5_1 ++ [x0_1]) := ⟨_, rfl⟩
          replace H : (some y179) = some r := by first | (rw [hy179]; with_reducible exact H) | (have H2_ := (Option.bind_some _ _).symm.trans H; rw [hy179]; with_reducible exact H2_) | (have H2_ := (Option.bind_some _ _).symm.trans H; with_reducible exact H2_) | with_reducible exact H | (rw [hy179]; exact H) | exact H
          have Ny179 := Aside0.mk hy179
          clear hy179
          focus
            obtain rfl := Option.some.inj H
            go_wp2_with (first | ((with_reducible refine gate_callee (f := 33) rfl ?_); refine goesL_ (some 9) rfl rfl Tryz.func33 (by kernel_rfl) rfl #[.string x0_1, .string a1] rfl (by (try simp only [List.map_toArray, List.map_cons, List.map_nil]); first | done | rfl | (simp only [List.length_drop, List.length_take]; rfl)) ?_; (with_reducible refine (semver_zzIndex.calls k1 x0_1 a1 t178 _ A3.out).mono ?_); rintro e w' ⟨rfl, ⟨nd, rfl⟩⟩; refine ⟨_, rfl, ?_⟩) | ((with_reducible refine gate_builtin (b := .append) (xs := #[.tmp 12, .tmp 14]) rfl ?_); at_builtin; refine Kd.R_append Kd.string (w0 := w) w.heap.size rfl (.tmp 12) (.tmp 14) 28 9 (.string ⟨#[]⟩) 16 rfl Tryz.underlying28 info9 rfl (by decide) (by omega) u5 x5_1 x0_1 [.string x0_1] (fun _ => True) (fun _ => False) rfl rfl ?aP (fun _ hk => hk.elim) ?aF ?aO ?aB ?aS ?aL ?_; (case aP => exact rfl); (case aB => exact (by repeat (first | (with_reducible first | exact HB.out | apply below_alloc | apply pw_below_drewN | apply below_drew1) | exact HB.out))); (case aF => exact (fun _ _ => trivial)); (case aO => exact (by (with_reducible repeat (first | apply Kd.R_alloc | apply Kd.R_drewN | apply Kd.R_drew)); exact HO_5.out)); (case aS => exact (below_size (by repeat (first | (with_reducible first | exact HB.out | apply below_alloc | apply pw_below_drewN | apply below_drew1) | exact HB.out)))); (case aL => have := LMc5.out; omega); intro v180 w6 ho hb hg hat; rw [← Ny179.out] at ho; have n0_ := Aside0.mk (hb); have n1_ := Aside0.mk (ho); clear HB; clear HO_5; have HB := n0_; have HO181 := n1_; clear n0_ n1_; clear ho hb hg hat))
            go_ret
            exact ⟨_, by first | rfl | (simp [errW_none, errW_some] <;> rfl) | (simp [*, errW_none, errW_some] <;> rfl), by (with_reducible repeat (first | apply Kd.R_alloc | apply Kd.R_drewN | apply Kd.R_drew)); exact HO181.out, by repeat (first | (with_reducible first | exact HB.out | apply below_alloc | apply pw_below_drewN | apply below_drew1) | exact HB.out)⟩
        · rw [if_neg c5] at H
          exact absurd H (by simp)
      · rw [if_neg c4] at H
        have c4b0 : decide (t178 < 0) = false := decide_eq_false c4
        clear c4
        by_cases c7 : 0 ≤ t178
        · rw [if_pos c7] at H
          have c7b0 := eq_true c7
          have c7b1 : decide (0 ≤ t178) = true := decide_eq_true c7
          clear c7
          by_cases c8 : t178 ≤ (x0_1.size : Int)
          · rw [if_pos c8] at H
            have c8b0 := eq_true c8
            have c8b1 : decide (t178 ≤ (x0_1.size : Int)) = true := decide_eq_true c8
            clear c8
            by_cases c9 : x5_1.length < 8796093022208
            · rw [if_pos c9] at H
              have LMc9 := Aside0.mk c9
              clear c9
              obtain ⟨y182, hy182⟩ : ∃ y_ : List ByteArray, y_ = (x5_1 ++ [x0_1.extract 0 (t178 : Int).toNat]) := ⟨_, rfl⟩
              replace H : (if 0 ≤ (wrap64 (t178 + (a1.size : Int))) then (if (wrap64 (t178 + (a1.size : Int))) ≤ (x0_1.size : Int) then (semver_zzSplit.l0 k1 (x0_1.extract ((wrap64 (t178 + (a1.size : Int))) : Int).toNat x0_1.size) a1 y182) else (none)) else (none)) = some r := by first | (rw [hy182]; with_reducible exact H) | (have H2_ := (Option.bind_some _ _).symm.trans H; rw [hy182]; with_reducible exact H2_) | (have H2_ := (Option.bind_some _ _).symm.trans H; with_reducible exact H2_) | with_reducible exact H | (rw [hy182]; exact H) | exact H
              have Ny182 := Aside0.mk hy182
              clear hy182
              obtain ⟨ji10, hji10⟩ : ∃ j_ : Int, (wrap64 (t178 + (a1.size : Int))) = j_ := ⟨_, rfl⟩
              replace H : (if 0 ≤ (ji10) then (if (ji10) ≤ (x0_1.size : Int) then (semver_zzSplit.l0 k1 (x0_1.extract ((ji10) : Int).toNat x0_1.size) a1 y182) else (none)) else (none)) = some r := by first | (rw [hji10] at H; exact H) | (simp only [hji10] at H ⊢; exact H)
              (try rw [hji10] at A3)
              have hji10w : (IntKind.i64.wrap (t178 + (a1.size : Int))) = ji10 := (i64_w _).trans hji10
              by_cases c11 : 0 ≤ (ji10)
              · rw [if_pos c11] at H
                have c11b0 := eq_true c11
                have c11b1 : decide (0 ≤ (ji10)) = true := decide_eq_true c11
                clear c11
                by_cases c12 : (ji10) ≤ (x0_1.size : Int)
                · rw [if_pos c12] at H
                  have c12b0 := eq_true c12
                  have c12b1 : decide ((ji10) ≤ (x0_1.size : Int)) = true := decide_eq_true c12
                  clear c12
                  focus
                    have H' := Aside0.mk H
                    clear H
                    go_wp2_with (first | ((with_reducible refine gate_callee (f := 33) rfl ?_); refine goesL_ (some 9) rfl rfl Tryz.func33 (by kernel_rfl) rfl #[.string x0_1, .string a1] rfl (by (try simp only [List.map_toArray, List.map_cons, List.map_nil]); first | done | rfl | (simp only [List.length_drop, List.length_take]; rfl)) ?_; (with_reducible refine (semver_zzIndex.calls k1 x0_1 a1 t178 _ A3.out).mono ?_); rintro e w' ⟨rfl, ⟨nd, rfl⟩⟩; refine ⟨_, rfl, ?_⟩) | ((with_reducible refine gate_builtin (b := .append) (xs := #[.tmp 16, .tmp 20]) rfl ?_); at_builtin; refine Kd.R_append Kd.string (w0 := w) w.heap.size rfl (.tmp 16) (.tmp 20) 28 9 (.string ⟨#[]⟩) 16 rfl Tryz.underlying28 info9 rfl (by decide) (by omega) u5 x5_1 (x0_1.extract 0 (t178 : Int).toNat) [.string (x0_1.extract 0 (t178 : Int).toNat)] (fun _ => True) (fun _ => False) rfl rfl ?aP (fun _ hk => hk.elim) ?aF ?aO ?aB ?aS ?aL ?_; (case aP => exact rfl); (case aB => exact (by repeat (first | (with_reducible first | exact HB.out | apply below_alloc | apply pw_below_drewN | apply below_drew1) | exact HB.out))); (case aF => exact (fun _ _ => trivial)); (case aO => exact (by (with_reducible repeat (first | apply Kd.R_alloc | apply Kd.R_drewN | apply Kd.R_drew)); exact HO_5.out)); (case aS => exact (below_size (by repeat (first | (with_reducible first | exact HB.out | apply below_alloc | apply pw_below_drewN | apply below_drew1) | exact HB.out)))); (case aL => have := LMc9.out; omega); intro v183 w13 ho hb hg hat; rw [← Ny182.out] at ho; have n0_ := Aside0.mk (hb); have n1_ := Aside0.mk (ho); clear HB; clear HO_5; have HB := n0_; have HO184 := n1_; clear n0_ n1_; clear ho hb hg hat))
                    go_roundg k1
                    case measure => have := HK1.out; omega
                    case rel => exact ⟨(x0_1.extract ((ji10) : Int).toNat x0_1.size), (y182), (by first | rfl | (simp only [bytesLe_not]; done) | (simp; done) | (simp only [← hji10] <;> (first | rfl | simp)) | (simp [*]; done)), H', ⟨by have := HK1.out; omega⟩, ⟨by (with_reducible repeat (first | apply Kd.R_alloc | apply Kd.R_drewN | apply Kd.R_drew)); exact HO184.out⟩, ⟨by repeat (first | (with_reducible first | exact HB.out | apply below_alloc | apply pw_below_drewN | apply below_drew1) | exact HB.out)⟩⟩
                · rw [if_neg c12] at H
                  exact absurd H (by simp)
              · rw [if_neg c11] at H
                exact absurd H (by simp)
            · rw [if_neg c9] at H
              exact absurd H (by simp)
          · rw [if_neg c8] at H
            exact absurd H (by simp)
        · rw [if_neg c7] at H
          exact absurd H (by simp)

-- NOT PRINTED: function 34 (semver_zzConstraint)

-- NOT PRINTED: function 24 (semver_zzValid)

end Go.Proofs.YtlhijjfbcgconaaGreatDoor.P

