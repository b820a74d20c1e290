-- WRITTEN by xprint.py (a program of this session, over the kit's print) out of the translation. Not trusted: Lean checks it.
import Derived.Test.YtlhijjfbcgconaaDoorZPx0
import Derived.Test.YtlhijjfbcgconaaDoorZPx5
import Derived.Test.YtlhijjfbcgconaaDoorZPx18
namespace Go.Proofs.YtlhijjfbcgconaaDoor.P
open Go.RowKit Go.Proofs.YtlhijjfbcgconaaDoorW.PrintWords Go.Proofs.YtlhijjfbcgconaaDoorW.PrintLast Go.Proofs.YtlhijjfbcgconaaDoorW.PrintMore
attribute [local go_sem] max2_int min2_int max_two min_two max_three min_three max_four min_four run_store_float   -- for this text's walks alone
set_option linter.unusedVariables false
set_option linter.unusedSimpArgs false

/-! ### semver_zzReplace: function 108 -/
mutual
def semver_zzReplace.l0 : Nat → ByteArray → ByteArray → ByteArray → Int → List Int → Int → Int → Option (ByteArray)
  | 0, _, _, _, _, _, _, _ => none
  | k + 1, x0, x1, x2, x3, x9, x10, x11 => if x3 < 0 then (semver_zzReplace.j1 k x0 x1 x2 x3 x9 x10 x11 true) else (semver_zzReplace.j1 k x0 x1 x2 x3 x9 x10 x11 (decide (x11 < x3)))
def semver_zzReplace.j1 : Nat → ByteArray → ByteArray → ByteArray → Int → List Int → Int → Int → Bool → Option (ByteArray)
  | 0, _, _, _, _, _, _, _, _ => none
  | k + 1, x0, x1, x2, x3, x9, x10, x11, x22 => if x22 = true then (if (x1.size : Int) = 0 then (none) else (if 0 ≤ x10 then (if x10 ≤ (x0.size : Int) then ((semver_zzIndex.f k (x0.extract (x10 : Int).toNat x0.size) x1).bind fun t309 => (if t309 < 0 then (if x9.length + (x0.extract (x10 : Int).toNat x0.size).size < 140737488355328 then (some (strOfNums (x9 ++ bytesOf (x0.extract (x10 : Int).toNat x0.size)))) else (none)) else (if x10 ≤ (wrap64 (x10 + t309)) then (if (wrap64 (x10 + t309)) ≤ (x0.size : Int) then (if x9.length + (x0.extract (x10 : Int).toNat ((wrap64 (x10 + t309)) : Int).toNat).size < 140737488355328 then ((some (x9 ++ bytesOf (x0.extract (x10 : Int).toNat ((wrap64 (x10 + t309)) : Int).toNat) : List Int)).bind fun y313 => (if y313.length + x2.size < 140737488355328 then (semver_zzReplace.l0 k x0 x1 x2 x3 (y313 ++ bytesOf x2) (wrap64 ((wrap64 (x10 + t309)) + (x1.size : Int))) (wrap64 (x11 + 1))) else (none))) else (none)) else (none)) else (none)))) else (none)) else (none))) else (if 0 ≤ x10 then (if x10 ≤ (x0.size : Int) then (if x9.length + (x0.extract (x10 : Int).toNat x0.size).size < 140737488355328 then (some (strOfNums (x9 ++ bytesOf (x0.extract (x10 : Int).toNat x0.size)))) else (none)) else (none)) else (none))
end
def semver_zzReplace.f (k : Nat) (a0 : ByteArray) (a1 : ByteArray) (a2 : ByteArray) (a3 : Int) : Option (ByteArray) := semver_zzReplace.l0 k a0 a1 a2 a3 ([] : List Int) 0 0
theorem semver_zzReplace.mono_l : ∀ k, (∀ y0 y1 y2 y3 y4 y5 y6, LeO (semver_zzReplace.l0 k y0 y1 y2 y3 y4 y5 y6) (semver_zzReplace.l0 (k + 1) y0 y1 y2 y3 y4 y5 y6)) ∧ (∀ y0 y1 y2 y3 y4 y5 y6 y7, LeO (semver_zzReplace.j1 k y0 y1 y2 y3 y4 y5 y6 y7) (semver_zzReplace.j1 (k + 1) y0 y1 y2 y3 y4 y5 y6 y7))
  | 0 => ⟨fun _ _ _ _ _ _ _ r h => by simp [semver_zzReplace.l0] at h, fun _ _ _ _ _ _ _ _ r h => by simp [semver_zzReplace.j1] at h⟩
  | k + 1 => by
    obtain ⟨ih0, ih1⟩ := semver_zzReplace.mono_l k
    refine ⟨?_, ?_⟩
    · intro y0 y1 y2 y3 y4 y5 y6
      unfold semver_zzReplace.l0
      repeat' first
      | (with_reducible exact ih0 _ _ _ _ _ _ _)
      | (with_reducible exact ih1 _ _ _ _ _ _ _ _)
      | (with_reducible exact semver_zzIndex.mono _ _ _)
      | (with_reducible exact LeO.refl _)
      | (with_reducible exact LeO.none _)
      | (with_reducible refine LeO.ite ?_ ?_)
      | (with_reducible refine LeO.bind ?_ (fun _ => ?_))
      | exact ih0 _ _ _ _ _ _ _
      | exact ih1 _ _ _ _ _ _ _ _
      | exact semver_zzIndex.mono _ _ _
      | exact LeO.none _
      | refine LeO.ite ?_ ?_
      | refine LeO.bind ?_ (fun _ => ?_)
    · intro y0 y1 y2 y3 y4 y5 y6 y7
      unfold semver_zzReplace.j1
      repeat' first
      | (with_reducible exact ih0 _ _ _ _ _ _ _)
      | (with_reducible exact ih1 _ _ _ _ _ _ _ _)
      | (with_reducible exact semver_zzIndex.mono _ _ _)
      | (with_reducible exact LeO.refl _)
      | (with_reducible exact LeO.none _)
      | (with_reducible refine LeO.ite ?_ ?_)
      | (with_reducible refine LeO.bind ?_ (fun _ => ?_))
      | exact ih0 _ _ _ _ _ _ _
      | exact ih1 _ _ _ _ _ _ _ _
      | exact semver_zzIndex.mono _ _ _
      | exact LeO.none _
      | refine LeO.ite ?_ ?_
      | refine LeO.bind ?_ (fun _ => ?_)
theorem semver_zzReplace.mono : ∀ a0 a1 a2 a3 k, LeO (semver_zzReplace.f k a0 a1 a2 a3) (semver_zzReplace.f (k + 1) a0 a1 a2 a3) := by
  intro a0 a1 a2 a3 k
  obtain ⟨ih0, ih1⟩ := semver_zzReplace.mono_l k
  unfold semver_zzReplace.f
  repeat' first
      | (with_reducible exact ih0 _ _ _ _ _ _ _)
      | (with_reducible exact ih1 _ _ _ _ _ _ _ _)
      | (with_reducible exact semver_zzIndex.mono _ _ _)
      | (with_reducible exact LeO.refl _)
      | (with_reducible exact LeO.none _)
      | (with_reducible refine LeO.ite ?_ ?_)
      | (with_reducible refine LeO.bind ?_ (fun _ => ?_))
      | exact ih0 _ _ _ _ _ _ _
      | exact ih1 _ _ _ _ _ _ _ _
      | exact semver_zzIndex.mono _ _ _
      | exact LeO.none _
      | refine LeO.ite ?_ ?_
      | refine LeO.bind ?_ (fun _ => ?_)
set_option maxHeartbeats 8000000 in
set_option maxRecDepth 100000 in
theorem semver_zzReplace.calls (k : Nat) (a0 : ByteArray) (a1 : ByteArray) (a2 : ByteArray) (a3 : Int) (r : ByteArray) (w : World) (h : semver_zzReplace.f k a0 a1 a2 a3 = some r) (HT0U : TabsU w) :
    Calls Tryd.prog 108 #[.string a0, .string a1, .string a2, .int .i64 a3] w fun e w' => e = .returned (.string r) ∧ Below w.heap.size w w' := by
  have HTU := Aside0.mk HT0U
  clear HT0U
  have HB := Aside0.mk (Below.refl w.heap.size w)
  have H : (semver_zzReplace.l0 k a0 a1 a2 a3 ([] : List Int) 0 0) = some r := h
  clear h
  have H' := Aside0.mk H
  clear H
  go_enter Tryd.func108, Tryd.ntmps108
  go_wp2
  go_loopg [9, 10, 11] k (fun kq v9 v10 v11 w' => ∃ (x9_1 : List Int) (x10_1 : Int) (x11_1 : Int), v10 = .int .i64 x10_1 ∧ v11 = .int .i64 x11_1 ∧ Aside0 (semver_zzReplace.l0 kq a0 a1 a2 a3 x9_1 x10_1 x11_1 = some r) ∧ Aside0 (kq ≤ k) ∧ Aside0 (Kd.R (Kd.int .u8) 5 w' w.heap.size (fun _ => True) v9 x9_1) ∧ Aside0 (Below w.heap.size w w'))
  case atStart => exact ⟨(([] : List Int)), (0), (0), (by first | rfl | (simp only [bytesLe_not]; done) | (simp; done) | (simp [*]; done)), (by first | rfl | (simp only [bytesLe_not]; done) | (simp; done) | (simp [*]; done)), H', ⟨Nat.le_refl _⟩, ⟨by first | exact Kd.R_nil _ _ _ _ _ | exact Kd.N_nil _ _ _ _ _ | exact Kd.V_nil _ _ _ _ _ | exact Kd.Q_nil _ _ _ _ _ | exact Kd.S_nil _ _ _ _ _⟩, ⟨by repeat (first | (with_reducible first | exact HB.out | apply below_alloc | apply pw_below_drewN | apply below_drew1) | exact HB.out)⟩⟩
  case round =>
    clear H'
    try clear c1
    try clear p2
    obtain ⟨x9_1, x10_1, x11_1, rfl, rfl, HA, HK1, HO_9, HB⟩ := hrel
    cases gk with
    | zero => exact absurd HA.out (by simp [semver_zzReplace.l0])
    | succ k1 =>
      have H := HA.out
      clear HA
      simp only [semver_zzReplace.l0] at H
      have HC5 := Aside0.mk H
      clear H
      go_upto_region 4 with (fail)
      go_cut [22] (fun v22 wc => ∃ (kq : Nat) (x22_4 : Bool), v22 = .bool x22_4 ∧ Aside0 (semver_zzReplace.j1 kq a0 a1 a2 a3 x9_1 x10_1 x11_1 x22_4 = some r) ∧ Aside0 (kq ≤ k1) ∧ Aside0 (Kd.R (Kd.int .u8) 5 wc w.heap.size (fun _ => True) u9 x9_1) ∧ Aside0 (Below w.heap.size w wc))
      case first =>
        have H := HC5.out
        clear HC5
        by_cases c6 : a3 < 0
        · rw [if_pos c6] at H
          have c6b0 : decide (a3 < 0) = true := decide_eq_true c6
          clear c6
          (first | rw [c6b0] | (simp only [i64_w, i32_w]; rw [c6b0]) | skip)
          as_aux_lemma =>
            have H' := Aside0.mk H
            clear H
            go_wp2
            go_meet
            case rel => exact ⟨_, (true), (by first | rfl | (simp only [bytesLe_not]; done) | (simp; done) | (simp [*]; done)), H', ⟨by have := HK1.out; first | omega | exact Nat.le_refl _⟩, ⟨by (with_reducible repeat (first | apply Kd.R_alloc | apply Kd.R_drewN | apply Kd.R_drew)); exact HO_9.out⟩, ⟨by repeat (first | (with_reducible first | exact HB.out | apply below_alloc | apply pw_below_drewN | apply below_drew1) | exact HB.out)⟩⟩
        · rw [if_neg c6] at H
          have c6b0 : decide (a3 < 0) = false := decide_eq_false c6
          clear c6
          (first | rw [c6b0] | (simp only [i64_w, i32_w]; rw [c6b0]) | skip)
          as_aux_lemma =>
            have H' := Aside0.mk H
            clear H
            go_wp2
            go_meet
            case rel => exact ⟨_, (decide (x11_1 < a3)), (by first | rfl | (simp only [bytesLe_not]; done) | (simp; done) | (simp [*]; done)), H', ⟨by have := HK1.out; first | omega | exact Nat.le_refl _⟩, ⟨by (with_reducible repeat (first | apply Kd.R_alloc | apply Kd.R_drewN | apply Kd.R_drew)); exact HO_9.out⟩, ⟨by repeat (first | (with_reducible first | exact HB.out | apply below_alloc | apply pw_below_drewN | apply below_drew1) | exact HB.out)⟩⟩
      case rest =>
        clear HC5
        try clear c1
        try clear p2
        try clear c6
        try clear c6b0
        try clear p2
        obtain ⟨kq, x22_4, rfl, HA, HJ4, HO_9, HB⟩ := hcut
        cases kq with
        | zero => exact absurd HA.out (by simp [semver_zzReplace.j1])
        | succ kj4 =>
          have H := HA.out
          clear HA
          simp only [semver_zzReplace.j1] at H
          by_cases c7 : x22_4 = true
          · subst c7
            have H1 : (if (a1.size : Int) = 0 then (none) else (if 0 ≤ x10_1 then (if x10_1 ≤ (a0.size : Int) then ((semver_zzIndex.f kj4 (a0.extract (x10_1 : Int).toNat a0.size) a1).bind fun t309 => (if t309 < 0 then (if x9_1.length + (a0.extract (x10_1 : Int).toNat a0.size).size < 140737488355328 then (some (strOfNums (x9_1 ++ bytesOf (a0.extract (x10_1 : Int).toNat a0.size)))) else (none)) else (if x10_1 ≤ (wrap64 (x10_1 + t309)) then (if (wrap64 (x10_1 + t309)) ≤ (a0.size : Int) then (if x9_1.length + (a0.extract (x10_1 : Int).toNat ((wrap64 (x10_1 + t309)) : Int).toNat).size < 140737488355328 then ((some (x9_1 ++ bytesOf (a0.extract (x10_1 : Int).toNat ((wrap64 (x10_1 + t309)) : Int).toNat) : List Int)).bind fun y313 => (if y313.length + a2.size < 140737488355328 then (semver_zzReplace.l0 kj4 a0 a1 a2 a3 (y313 ++ bytesOf a2) (wrap64 ((wrap64 (x10_1 + t309)) + (a1.size : Int))) (wrap64 (x11_1 + 1))) else (none))) else (none)) else (none)) else (none)))) else (none)) else (none))) = some r := by rw [if_pos rfl] at H; exact H
            clear H
            have H := H1
            clear H1
            by_cases c8 : (a1.size : Int) = 0
            · rw [if_pos c8] at H
              exact absurd H (by simp)
            · rw [if_neg c8] at H
              have c8b0 : ((a1.size : Int) == 0) = false := beq_eq_false_iff_ne.mpr c8
              have c8b1 : ((a1.size : Int) != 0) = true := bne_iff_ne.mpr c8
              by_cases c34 : 0 ≤ x10_1
              · rw [if_pos c34] at H
                have c34b0 := eq_true c34
                have c34b1 : decide (0 ≤ x10_1) = true := decide_eq_true c34
                clear c34
                by_cases c35 : x10_1 ≤ (a0.size : Int)
                · rw [if_pos c35] at H
                  have c35b0 := eq_true c35
                  have c35b1 : decide (x10_1 ≤ (a0.size : Int)) = true := decide_eq_true c35
                  clear c35
                  replace H := Option.bind_eq_some_iff.mp H
                  obtain ⟨t309, A360, H⟩ := H
                  replace H : (if t309 < 0 then (if x9_1.length + (a0.extract (x10_1 : Int).toNat a0.size).size < 140737488355328 then (some (strOfNums (x9_1 ++ bytesOf (a0.extract (x10_1 : Int).toNat a0.size)))) else (none)) else (if x10_1 ≤ (wrap64 (x10_1 + t309)) then (if (wrap64 (x10_1 + t309)) ≤ (a0.size : Int) then (if x9_1.length + (a0.extract (x10_1 : Int).toNat ((wrap64 (x10_1 + t309)) : Int).toNat).size < 140737488355328 then ((some (x9_1 ++ bytesOf (a0.extract (x10_1 : Int).toNat ((wrap64 (x10_1 + t309)) : Int).toNat) : List Int)).bind fun y313 => (if y313.length + a2.size < 140737488355328 then (semver_zzReplace.l0 kj4 a0 a1 a2 a3 (y313 ++ bytesOf a2) (wrap64 ((wrap64 (x10_1 + t309)) + (a1.size : Int))) (wrap64 (x11_1 + 1))) else (none))) else (none)) else (none)) else (none))) = some r := H
                  have A36 := Aside0.mk A360
                  clear A360
                  by_cases c37 : t309 < 0
                  · rw [if_pos c37] at H
                    have c37b0 : decide (t309 < 0) = true := decide_eq_true c37
                    clear c37
                    have c38b0 := eq_true (of_decide_eq_true (by first | (with_reducible assumption) | assumption) : 0 ≤ x10_1)
                    have c39b0 := eq_true (of_decide_eq_true (by first | (with_reducible assumption) | assumption) : x10_1 ≤ (a0.size : Int))
                    by_cases c40 : x9_1.length + (a0.extract (x10_1 : Int).toNat a0.size).size < 140737488355328
                    · rw [if_pos c40] at H
                      have LMc40 := Aside0.mk c40
                      clear c40
                      obtain ⟨y310, hy310⟩ : ∃ y_ : List Int, y_ = (x9_1 ++ bytesOf (a0.extract (x10_1 : Int).toNat a0.size)) := ⟨_, rfl⟩
                      replace H : (some (strOfNums y310)) = some r := by first | (rw [hy310]; with_reducible exact H) | (have H2_ := (Option.bind_some _ _).symm.trans H; rw [hy310]; with_reducible exact H2_) | (have H2_ := (Option.bind_some _ _).symm.trans H; with_reducible exact H2_) | with_reducible exact H | (rw [hy310]; exact H) | exact H
                      have Ny310 := Aside0.mk hy310
                      clear hy310
                      as_aux_lemma =>
                        obtain rfl := Option.some.inj H
                        go_wp2_with (first | ((with_reducible refine gate_callee (f := 70) rfl ?_); refine goesL_ (some 49) rfl rfl Tryd.func70 (by kernel_rfl) rfl #[.string (a0.extract (x10_1 : Int).toNat a0.size), .string a1] rfl (by (try simp only [List.map_toArray, List.map_cons, List.map_nil]); first | done | rfl | (simp only [List.length_drop, List.length_take]; rfl)) ?_; (with_reducible refine (semver_zzIndex.calls kj4 (a0.extract (x10_1 : Int).toNat a0.size) a1 t309 _ A36.out).mono ?_); rintro e w' ⟨rfl, ⟨nd, rfl⟩⟩; refine ⟨_, rfl, ?_⟩) | (at_builtin; refine print_append_str (w0 := w) w.heap.size rfl (.tmp 68) _ 83 9 5 rfl Tryd.underlying83 Tryd.underlying9 info5 u9 x9_1 (a0.extract (x10_1 : Int).toNat a0.size) rfl rfl ?aO ?aB ?aS ?aL ?_; (case aB => exact (by repeat (first | (with_reducible first | exact HB.out | apply below_alloc | apply pw_below_drewN | apply below_drew1) | exact HB.out))); (case aO => exact (Kd.own_of_R (by (with_reducible repeat (first | apply Kd.R_alloc | apply Kd.R_drewN | apply Kd.R_drew)); exact HO_9.out))); (case aS => exact (below_size (by repeat (first | (with_reducible first | exact HB.out | apply below_alloc | apply pw_below_drewN | apply below_drew1) | exact HB.out)))); (case aL => have := LMc40.out; omega); intro v311 w41 ho0 hb hg; have ho := Kd.R_of_own (h1 := fun _ => rfl) (ok := fun _ => True) ho0 (fun _ _ => trivial); clear ho0; have hat := True.intro; rw [← Ny310.out] at ho; change Kd.R (Kd.int .u8) 5 w41 w.heap.size (fun _ => True) v311 y310 at ho; have n0_ := Aside0.mk (hb); have n1_ := Aside0.mk (ho); clear HB; clear HO_9; have HB := n0_; have HO312 := n1_; clear n0_ n1_; clear ho hb hg hat; have hcv42 := own_string (P := Tryd.prog) Tryd.underlying83 Tryd.underlying5 Tryd.underlying9 (Kd.own_of_R HO312.out)))
                        go_ret
                        exact ⟨by first | rfl | (simp [errW_none, errW_some] <;> rfl) | (simp [*, errW_none, errW_some] <;> rfl), by repeat (first | (with_reducible first | exact HB.out | apply below_alloc | apply pw_below_drewN | apply below_drew1) | exact HB.out)⟩
                    · rw [if_neg c40] at H
                      exact absurd H (by simp)
                  · rw [if_neg c37] at H
                    have c37b0 : decide (t309 < 0) = false := decide_eq_false c37
                    clear c37
                    have c43b0 := eq_true (of_decide_eq_true (by first | (with_reducible assumption) | assumption) : 0 ≤ x10_1)
                    by_cases c44 : x10_1 ≤ (wrap64 (x10_1 + t309))
                    · rw [if_pos c44] at H
                      have c44b0 := eq_true c44
                      have c44b1 : decide (x10_1 ≤ (wrap64 (x10_1 + t309))) = true := decide_eq_true c44
                      by_cases c45 : (wrap64 (x10_1 + t309)) ≤ (a0.size : Int)
                      · rw [if_pos c45] at H
                        have c45b0 := eq_true c45
                        have c45b1 : decide ((wrap64 (x10_1 + t309)) ≤ (a0.size : Int)) = true := decide_eq_true c45
                        by_cases c46 : x9_1.length + (a0.extract (x10_1 : Int).toNat ((wrap64 (x10_1 + t309)) : Int).toNat).size < 140737488355328
                        · rw [if_pos c46] at H
                          have LMc46 := Aside0.mk c46
                          clear c46
                          obtain ⟨y313, hy313⟩ : ∃ y_ : List Int, y_ = (x9_1 ++ bytesOf (a0.extract (x10_1 : Int).toNat ((wrap64 (x10_1 + t309)) : Int).toNat)) := ⟨_, rfl⟩
                          replace H : (if y313.length + a2.size < 140737488355328 then (semver_zzReplace.l0 kj4 a0 a1 a2 a3 (y313 ++ bytesOf a2) (wrap64 ((wrap64 (x10_1 + t309)) + (a1.size : Int))) (wrap64 (x11_1 + 1))) else (none)) = some r := by first | (rw [hy313]; with_reducible exact H) | (have H2_ := (Option.bind_some _ _).symm.trans H; rw [hy313]; with_reducible exact H2_) | (have H2_ := (Option.bind_some _ _).symm.trans H; with_reducible exact H2_) | with_reducible exact H | (rw [hy313]; exact H) | exact H
                          have Ny313 := Aside0.mk hy313
                          clear hy313
                          by_cases c47 : y313.length + a2.size < 140737488355328
                          · rw [if_pos c47] at H
                            have LMc47 := Aside0.mk c47
                            clear c47
                            obtain ⟨y316, hy316⟩ : ∃ y_ : List Int, y_ = (y313 ++ bytesOf a2) := ⟨_, rfl⟩
                            replace H : (semver_zzReplace.l0 kj4 a0 a1 a2 a3 y316 (wrap64 ((wrap64 (x10_1 + t309)) + (a1.size : Int))) (wrap64 (x11_1 + 1))) = some r := by first | (rw [hy316]; with_reducible exact H) | (have H2_ := (Option.bind_some _ _).symm.trans H; rw [hy316]; with_reducible exact H2_) | (have H2_ := (Option.bind_some _ _).symm.trans H; with_reducible exact H2_) | with_reducible exact H | (rw [hy316]; exact H) | exact H
                            have Ny316 := Aside0.mk hy316
                            clear hy316
                            as_aux_lemma =>
                              have H' := Aside0.mk H
                              clear H
                              go_wp2_with (first | ((with_reducible refine gate_callee (f := 70) rfl ?_); refine goesL_ (some 49) rfl rfl Tryd.func70 (by kernel_rfl) rfl #[.string (a0.extract (x10_1 : Int).toNat a0.size), .string a1] rfl (by (try simp only [List.map_toArray, List.map_cons, List.map_nil]); first | done | rfl | (simp only [List.length_drop, List.length_take]; rfl)) ?_; (with_reducible refine (semver_zzIndex.calls kj4 (a0.extract (x10_1 : Int).toNat a0.size) a1 t309 _ A36.out).mono ?_); rintro e w' ⟨rfl, ⟨nd, rfl⟩⟩; refine ⟨_, rfl, ?_⟩) | (at_builtin; refine print_append_str (w0 := w) w.heap.size rfl (.tmp 55) _ 83 9 5 rfl Tryd.underlying83 Tryd.underlying9 info5 u9 x9_1 (a0.extract (x10_1 : Int).toNat ((wrap64 (x10_1 + t309)) : Int).toNat) rfl rfl ?aO ?aB ?aS ?aL ?_; (case aB => exact (by repeat (first | (with_reducible first | exact HB.out | apply below_alloc | apply pw_below_drewN | apply below_drew1) | exact HB.out))); (case aO => exact (Kd.own_of_R (by (with_reducible repeat (first | apply Kd.R_alloc | apply Kd.R_drewN | apply Kd.R_drew)); exact HO_9.out))); (case aS => exact (below_size (by repeat (first | (with_reducible first | exact HB.out | apply below_alloc | apply pw_below_drewN | apply below_drew1) | exact HB.out)))); (case aL => have := LMc46.out; omega); intro v314 w48 ho0 hb hg; have ho := Kd.R_of_own (h1 := fun _ => rfl) (ok := fun _ => True) ho0 (fun _ _ => trivial); clear ho0; have hat := True.intro; rw [← Ny313.out] at ho; change Kd.R (Kd.int .u8) 5 w48 w.heap.size (fun _ => True) v314 y313 at ho; have n0_ := Aside0.mk (hb); have n1_ := Aside0.mk (ho); clear HB; clear HO_9; have HB := n0_; have HO315 := n1_; clear n0_ n1_; clear ho hb hg hat) | (at_builtin; refine print_append_str (w0 := w) w.heap.size rfl (.tmp 61) _ 83 9 5 rfl Tryd.underlying83 Tryd.underlying9 info5 v314 y313 a2 rfl rfl ?aO ?aB ?aS ?aL ?_; (case aB => exact (by repeat (first | (with_reducible first | exact HB.out | apply below_alloc | apply pw_below_drewN | apply below_drew1) | exact HB.out))); (case aO => exact (Kd.own_of_R (by (with_reducible repeat (first | apply Kd.R_alloc | apply Kd.R_drewN | apply Kd.R_drew)); exact HO315.out))); (case aS => exact (below_size (by repeat (first | (with_reducible first | exact HB.out | apply below_alloc | apply pw_below_drewN | apply below_drew1) | exact HB.out)))); (case aL => have := LMc47.out; omega); intro v317 w49 ho0 hb hg; have ho := Kd.R_of_own (h1 := fun _ => rfl) (ok := fun _ => True) ho0 (fun _ _ => trivial); clear ho0; have hat := True.intro; rw [← Ny316.out] at ho; change Kd.R (Kd.int .u8) 5 w49 w.heap.size (fun _ => True) v317 y316 at ho; have n0_ := Aside0.mk (hb); have n1_ := Aside0.mk (ho); clear HB; clear HO315; have HB := n0_; have HO318 := n1_; clear n0_ n1_; clear ho hb hg hat))
                              go_roundg kj4
                              case measure => have := HK1.out; have := HJ4.out; omega
                              case rel => exact ⟨(y316), (wrap64 ((wrap64 (x10_1 + t309)) + (a1.size : Int))), (wrap64 (x11_1 + 1)), (by first | rfl | (simp only [bytesLe_not]; done) | (simp; done) | (simp [*]; done)), (by first | rfl | (simp only [bytesLe_not]; done) | (simp; done) | (simp [*]; done)), H', ⟨by have := HK1.out; have := HJ4.out; omega⟩, ⟨by (with_reducible repeat (first | apply Kd.R_alloc | apply Kd.R_drewN | apply Kd.R_drew)); exact HO318.out⟩, ⟨by repeat (first | (with_reducible first | exact HB.out | apply below_alloc | apply pw_below_drewN | apply below_drew1) | exact HB.out)⟩⟩
                          · rw [if_neg c47] at H
                            exact absurd H (by simp)
                        · rw [if_neg c46] at H
                          exact absurd H (by simp)
                      · rw [if_neg c45] at H
                        exact absurd H (by simp)
                    · rw [if_neg c44] at H
                      exact absurd H (by simp)
                · rw [if_neg c35] at H
                  exact absurd H (by simp)
              · rw [if_neg c34] at H
                exact absurd H (by simp)
          · replace c7 := Bool.eq_false_iff.mpr c7
            subst c7
            have H1 : (if 0 ≤ x10_1 then (if x10_1 ≤ (a0.size : Int) then (if x9_1.length + (a0.extract (x10_1 : Int).toNat a0.size).size < 140737488355328 then (some (strOfNums (x9_1 ++ bytesOf (a0.extract (x10_1 : Int).toNat a0.size)))) else (none)) else (none)) else (none)) = some r := by rw [if_neg (show ¬ (false = true) by decide)] at H; exact H
            clear H
            have H := H1
            clear H1
            by_cases c50 : 0 ≤ x10_1
            · rw [if_pos c50] at H
              have c50b0 := eq_true c50
              have c50b1 : decide (0 ≤ x10_1) = true := decide_eq_true c50
              clear c50
              by_cases c51 : x10_1 ≤ (a0.size : Int)
              · rw [if_pos c51] at H
                have c51b0 := eq_true c51
                have c51b1 : decide (x10_1 ≤ (a0.size : Int)) = true := decide_eq_true c51
                clear c51
                by_cases c52 : x9_1.length + (a0.extract (x10_1 : Int).toNat a0.size).size < 140737488355328
                · rw [if_pos c52] at H
                  have LMc52 := Aside0.mk c52
                  clear c52
                  obtain ⟨y289, hy289⟩ : ∃ y_ : List Int, y_ = (x9_1 ++ bytesOf (a0.extract (x10_1 : Int).toNat a0.size)) := ⟨_, rfl⟩
                  replace H : (some (strOfNums y289)) = some r := by first | (rw [hy289]; with_reducible exact H) | (have H2_ := (Option.bind_some _ _).symm.trans H; rw [hy289]; with_reducible exact H2_) | (have H2_ := (Option.bind_some _ _).symm.trans H; with_reducible exact H2_) | with_reducible exact H | (rw [hy289]; exact H) | exact H
                  have Ny289 := Aside0.mk hy289
                  clear hy289
                  as_aux_lemma =>
                    obtain rfl := Option.some.inj H
                    go_wp2_with (first | (at_builtin; refine print_append_str (w0 := w) w.heap.size rfl (.tmp 68) _ 83 9 5 rfl Tryd.underlying83 Tryd.underlying9 info5 u9 x9_1 (a0.extract (x10_1 : Int).toNat a0.size) rfl rfl ?aO ?aB ?aS ?aL ?_; (case aB => exact (by repeat (first | (with_reducible first | exact HB.out | apply below_alloc | apply pw_below_drewN | apply below_drew1) | exact HB.out))); (case aO => exact (Kd.own_of_R (by (with_reducible repeat (first | apply Kd.R_alloc | apply Kd.R_drewN | apply Kd.R_drew)); exact HO_9.out))); (case aS => exact (below_size (by repeat (first | (with_reducible first | exact HB.out | apply below_alloc | apply pw_below_drewN | apply below_drew1) | exact HB.out)))); (case aL => have := LMc52.out; omega); intro v290 w53 ho0 hb hg; have ho := Kd.R_of_own (h1 := fun _ => rfl) (ok := fun _ => True) ho0 (fun _ _ => trivial); clear ho0; have hat := True.intro; rw [← Ny289.out] at ho; change Kd.R (Kd.int .u8) 5 w53 w.heap.size (fun _ => True) v290 y289 at ho; have n0_ := Aside0.mk (hb); have n1_ := Aside0.mk (ho); clear HB; clear HO_9; have HB := n0_; have HO291 := n1_; clear n0_ n1_; clear ho hb hg hat; have hcv54 := own_string (P := Tryd.prog) Tryd.underlying83 Tryd.underlying5 Tryd.underlying9 (Kd.own_of_R HO291.out)))
                    go_ret
                    exact ⟨by first | rfl | (simp [errW_none, errW_some] <;> rfl) | (simp [*, errW_none, errW_some] <;> rfl), by repeat (first | (with_reducible first | exact HB.out | apply below_alloc | apply pw_below_drewN | apply below_drew1) | exact HB.out)⟩
                · rw [if_neg c52] at H
                  exact absurd H (by simp)
              · rw [if_neg c51] at H
                exact absurd H (by simp)
            · rw [if_neg c50] at H
              exact absurd H (by simp)

end Go.Proofs.YtlhijjfbcgconaaDoor.P

