-- WRITTEN by xprint.py (a program of this session, over the kit's print) out of the translation. Not trusted: Lean checks it.
import Derived.Test.YtfnogloefimeiaaDoorPx0
import Derived.Test.YtfnogloefimeiaaDoorPx3
import Derived.Test.YtfnogloefimeiaaDoorPx5
namespace Go.Proofs.YtfnogloefimeiaaDoor.P
open Go.RowKit Go.Proofs.YtfnogloefimeiaaDoorW.PrintWords Go.Proofs.YtfnogloefimeiaaDoorW.PrintLast Go.Proofs.YtfnogloefimeiaaDoorW.PrintMore
attribute [local go_sem] max2_int min2_int max_two min_two max_three min_three max_four min_four   -- for this text's walks alone
set_option linter.unusedVariables false
set_option linter.unusedSimpArgs false

/-! ### sprig_zzIndex: function 63 -/
def sprig_zzIndex.l0 : Nat → ByteArray → ByteArray → Int → Option (Int)
  | 0, _, _, _ => none
  | k + 1, x0, x1, x5 => if (wrap64 (x5 + (x1.size : Int))) ≤ (x0.size : Int) then (if 0 ≤ x5 then (if x5 ≤ (wrap64 (x5 + (x1.size : Int))) then (if (x0.extract (x5 : Int).toNat ((wrap64 (x5 + (x1.size : Int))) : Int).toNat).toList = x1.toList then (some x5) else (sprig_zzIndex.l0 k x0 x1 (wrap64 (x5 + 1)))) else (none)) else (none)) else (some (-1))
def sprig_zzIndex.f (k : Nat) (a0 : ByteArray) (a1 : ByteArray) : Option (Int) := sprig_zzIndex.l0 k a0 a1 0
theorem sprig_zzIndex.mono_l : ∀ k, (∀ y0 y1 y2, LeO (sprig_zzIndex.l0 k y0 y1 y2) (sprig_zzIndex.l0 (k + 1) y0 y1 y2))
  | 0 => fun _ _ _ r h => by simp [sprig_zzIndex.l0] at h
  | k + 1 => by
    have ih0 := sprig_zzIndex.mono_l k
    · intro y0 y1 y2
      unfold sprig_zzIndex.l0
      repeat' first
      | (with_reducible exact ih0 _ _ _)
      | (with_reducible exact LeO.refl _)
      | (with_reducible exact LeO.none _)
      | (with_reducible refine LeO.ite ?_ ?_)
      | (with_reducible refine LeO.bind ?_ (fun _ => ?_))
      | exact ih0 _ _ _
      | exact LeO.none _
      | refine LeO.ite ?_ ?_
      | refine LeO.bind ?_ (fun _ => ?_)
theorem sprig_zzIndex.mono : ∀ a0 a1 k, LeO (sprig_zzIndex.f k a0 a1) (sprig_zzIndex.f (k + 1) a0 a1) := by
  intro a0 a1 k
  have ih0 := sprig_zzIndex.mono_l k
  unfold sprig_zzIndex.f
  repeat' first
      | (with_reducible exact ih0 _ _ _)
      | (with_reducible exact LeO.refl _)
      | (with_reducible exact LeO.none _)
      | (with_reducible refine LeO.ite ?_ ?_)
      | (with_reducible refine LeO.bind ?_ (fun _ => ?_))
      | exact ih0 _ _ _
      | exact LeO.none _
      | refine LeO.ite ?_ ?_
      | refine LeO.bind ?_ (fun _ => ?_)
set_option maxHeartbeats 8000000 in
set_option maxRecDepth 100000 in
theorem sprig_zzIndex.calls (k : Nat) (a0 : ByteArray) (a1 : ByteArray) (r : Int) (w : World) (h : sprig_zzIndex.f k a0 a1 = some r) :
    Calls Tryd.prog 63 #[.string a0, .string a1] w fun e w' => e = .returned (.int .i64 r) ∧ Drawn0 w w' := by
  have H : (sprig_zzIndex.l0 k a0 a1 0) = some r := h
  clear h
  have H' := Aside0.mk H
  clear H
  go_enter Tryd.func63, Tryd.ntmps63
  go_wp2
  go_loopg [5] k (fun kq v5 w' => ∃ (x5_1 : Int), v5 = .int .i64 x5_1 ∧ Aside0 (sprig_zzIndex.l0 kq a0 a1 x5_1 = some r) ∧ Aside0 (kq ≤ k) ∧ Drawn0 w w')
  case atStart => exact ⟨(0), (by first | rfl | (simp; done) | (simp [*]; done)), H', ⟨Nat.le_refl _⟩, by repeat (first | exact Drawn0.refl _ | apply Drawn0.step)⟩
  case round =>
    clear H'
    try clear p2
    obtain ⟨x5_1, rfl, HA, HK1, ⟨m1, rfl⟩⟩ := hrel
    cases gk with
    | zero => exact absurd HA.out (by simp [sprig_zzIndex.l0])
    | succ k1 =>
      have H := HA.out
      clear HA
      simp only [sprig_zzIndex.l0] at H
      by_cases c3 : (wrap64 (x5_1 + (a1.size : Int))) ≤ (a0.size : Int)
      · rw [if_pos c3] at H
        have c3b0 : decide ((wrap64 (x5_1 + (a1.size : Int))) ≤ (a0.size : Int)) = true := decide_eq_true c3
        clear c3
        by_cases c4 : 0 ≤ x5_1
        · rw [if_pos c4] at H
          have c4b0 := eq_true c4
          have c4b1 : decide (0 ≤ x5_1) = true := decide_eq_true c4
          clear c4
          by_cases c5 : x5_1 ≤ (wrap64 (x5_1 + (a1.size : Int)))
          · rw [if_pos c5] at H
            have c5b0 := eq_true c5
            have c5b1 : decide (x5_1 ≤ (wrap64 (x5_1 + (a1.size : Int)))) = true := decide_eq_true c5
            have c6b0 := eq_true (of_decide_eq_true (by first | (with_reducible assumption) | assumption) : (wrap64 (x5_1 + (a1.size : Int))) ≤ (a0.size : Int))
            by_cases c7 : (a0.extract (x5_1 : Int).toNat ((wrap64 (x5_1 + (a1.size : Int))) : Int).toNat).toList = a1.toList
            · rw [if_pos c7] at H
              have c7b0 : ((a0.extract (x5_1 : Int).toNat ((wrap64 (x5_1 + (a1.size : Int))) : Int).toNat).toList == a1.toList) = true := beq_iff_eq.mpr c7
              have c7b1 : ((a0.extract (x5_1 : Int).toNat ((wrap64 (x5_1 + (a1.size : Int))) : Int).toNat).toList != a1.toList) = false := bne_eq_false_iff_eq.mpr c7
              clear c7
              obtain rfl := Option.some.inj H
              go_wp2
              go_ret
              exact ⟨by first | rfl | (simp; done) | (simp [*]; done), by repeat (first | exact Drawn0.refl _ | apply Drawn0.step)⟩
            · rw [if_neg c7] at H
              have c7b0 : ((a0.extract (x5_1 : Int).toNat ((wrap64 (x5_1 + (a1.size : Int))) : Int).toNat).toList == a1.toList) = false := beq_eq_false_iff_ne.mpr c7
              have c7b1 : ((a0.extract (x5_1 : Int).toNat ((wrap64 (x5_1 + (a1.size : Int))) : Int).toNat).toList != a1.toList) = true := bne_iff_ne.mpr c7
              have H' := Aside0.mk H
              clear H
              go_wp2
              go_roundg k1
              case measure => have := HK1.out; omega
              case rel => exact ⟨(wrap64 (x5_1 + 1)), (by first | rfl | (simp; done) | (simp [*]; done)), H', ⟨by have := HK1.out; omega⟩, by repeat (first | exact Drawn0.refl _ | apply Drawn0.step)⟩
          · rw [if_neg c5] at H
            exact absurd H (by simp)
        · rw [if_neg c4] at H
          exact absurd H (by simp)
      · rw [if_neg c3] at H
        have c3b0 : decide ((wrap64 (x5_1 + (a1.size : Int))) ≤ (a0.size : Int)) = false := decide_eq_false c3
        clear c3
        obtain rfl := Option.some.inj H
        go_wp2
        go_ret
        exact ⟨by first | rfl | (simp; done) | (simp [*]; done), by repeat (first | exact Drawn0.refl _ | apply Drawn0.step)⟩

/-! ### sprig_zzReplace: function 48 -/
mutual
def sprig_zzReplace.l0 : Nat → ByteArray → ByteArray → ByteArray → Int → List Int → Int → Int → Option (ByteArray)
  | 0, _, _, _, _, _, _, _ => none
  | k + 1, x0, x1, x2, x3, x9, x10, x11 => if x3 < 0 then (sprig_zzReplace.j1 k x0 x1 x2 x3 x9 x10 x11 true) else (sprig_zzReplace.j1 k x0 x1 x2 x3 x9 x10 x11 (decide (x11 < x3)))
def sprig_zzReplace.j1 : Nat → ByteArray → ByteArray → ByteArray → Int → List Int → Int → Int → Bool → Option (ByteArray)
  | 0, _, _, _, _, _, _, _, _ => none
  | k + 1, x0, x1, x2, x3, x9, x10, x11, x22 => if x22 = true then (if (x1.size : Int) = 0 then (none) else (if 0 ≤ x10 then (if x10 ≤ (x0.size : Int) then ((sprig_zzIndex.f k (x0.extract (x10 : Int).toNat x0.size) x1).bind fun t118 => (if t118 < 0 then (if x9.length + (x0.extract (x10 : Int).toNat x0.size).size < 140737488355328 then (some (strOfNums (x9 ++ bytesOf (x0.extract (x10 : Int).toNat x0.size)))) else (none)) else (if x10 ≤ (wrap64 (x10 + t118)) then (if (wrap64 (x10 + t118)) ≤ (x0.size : Int) then (if x9.length + (x0.extract (x10 : Int).toNat ((wrap64 (x10 + t118)) : Int).toNat).size < 140737488355328 then ((some (x9 ++ bytesOf (x0.extract (x10 : Int).toNat ((wrap64 (x10 + t118)) : Int).toNat) : List Int)).bind fun y122 => (if y122.length + x2.size < 140737488355328 then (sprig_zzReplace.l0 k x0 x1 x2 x3 (y122 ++ bytesOf x2) (wrap64 ((wrap64 (x10 + t118)) + (x1.size : Int))) (wrap64 (x11 + 1))) else (none))) else (none)) else (none)) else (none)))) else (none)) else (none))) else (if 0 ≤ x10 then (if x10 ≤ (x0.size : Int) then (if x9.length + (x0.extract (x10 : Int).toNat x0.size).size < 140737488355328 then (some (strOfNums (x9 ++ bytesOf (x0.extract (x10 : Int).toNat x0.size)))) else (none)) else (none)) else (none))
end
def sprig_zzReplace.f (k : Nat) (a0 : ByteArray) (a1 : ByteArray) (a2 : ByteArray) (a3 : Int) : Option (ByteArray) := sprig_zzReplace.l0 k a0 a1 a2 a3 ([] : List Int) 0 0
theorem sprig_zzReplace.mono_l : ∀ k, (∀ y0 y1 y2 y3 y4 y5 y6, LeO (sprig_zzReplace.l0 k y0 y1 y2 y3 y4 y5 y6) (sprig_zzReplace.l0 (k + 1) y0 y1 y2 y3 y4 y5 y6)) ∧ (∀ y0 y1 y2 y3 y4 y5 y6 y7, LeO (sprig_zzReplace.j1 k y0 y1 y2 y3 y4 y5 y6 y7) (sprig_zzReplace.j1 (k + 1) y0 y1 y2 y3 y4 y5 y6 y7))
  | 0 => ⟨fun _ _ _ _ _ _ _ r h => by simp [sprig_zzReplace.l0] at h, fun _ _ _ _ _ _ _ _ r h => by simp [sprig_zzReplace.j1] at h⟩
  | k + 1 => by
    obtain ⟨ih0, ih1⟩ := sprig_zzReplace.mono_l k
    refine ⟨?_, ?_⟩
    · intro y0 y1 y2 y3 y4 y5 y6
      unfold sprig_zzReplace.l0
      repeat' first
      | (with_reducible exact ih0 _ _ _ _ _ _ _)
      | (with_reducible exact ih1 _ _ _ _ _ _ _ _)
      | (with_reducible exact sprig_zzIndex.mono _ _ _)
      | (with_reducible exact LeO.refl _)
      | (with_reducible exact LeO.none _)
      | (with_reducible refine LeO.ite ?_ ?_)
      | (with_reducible refine LeO.bind ?_ (fun _ => ?_))
      | exact ih0 _ _ _ _ _ _ _
      | exact ih1 _ _ _ _ _ _ _ _
      | exact sprig_zzIndex.mono _ _ _
      | exact LeO.none _
      | refine LeO.ite ?_ ?_
      | refine LeO.bind ?_ (fun _ => ?_)
    · intro y0 y1 y2 y3 y4 y5 y6 y7
      unfold sprig_zzReplace.j1
      repeat' first
      | (with_reducible exact ih0 _ _ _ _ _ _ _)
      | (with_reducible exact ih1 _ _ _ _ _ _ _ _)
      | (with_reducible exact sprig_zzIndex.mono _ _ _)
      | (with_reducible exact LeO.refl _)
      | (with_reducible exact LeO.none _)
      | (with_reducible refine LeO.ite ?_ ?_)
      | (with_reducible refine LeO.bind ?_ (fun _ => ?_))
      | exact ih0 _ _ _ _ _ _ _
      | exact ih1 _ _ _ _ _ _ _ _
      | exact sprig_zzIndex.mono _ _ _
      | exact LeO.none _
      | refine LeO.ite ?_ ?_
      | refine LeO.bind ?_ (fun _ => ?_)
theorem sprig_zzReplace.mono : ∀ a0 a1 a2 a3 k, LeO (sprig_zzReplace.f k a0 a1 a2 a3) (sprig_zzReplace.f (k + 1) a0 a1 a2 a3) := by
  intro a0 a1 a2 a3 k
  obtain ⟨ih0, ih1⟩ := sprig_zzReplace.mono_l k
  unfold sprig_zzReplace.f
  repeat' first
      | (with_reducible exact ih0 _ _ _ _ _ _ _)
      | (with_reducible exact ih1 _ _ _ _ _ _ _ _)
      | (with_reducible exact sprig_zzIndex.mono _ _ _)
      | (with_reducible exact LeO.refl _)
      | (with_reducible exact LeO.none _)
      | (with_reducible refine LeO.ite ?_ ?_)
      | (with_reducible refine LeO.bind ?_ (fun _ => ?_))
      | exact ih0 _ _ _ _ _ _ _
      | exact ih1 _ _ _ _ _ _ _ _
      | exact sprig_zzIndex.mono _ _ _
      | exact LeO.none _
      | refine LeO.ite ?_ ?_
      | refine LeO.bind ?_ (fun _ => ?_)
set_option maxHeartbeats 8000000 in
set_option maxRecDepth 100000 in
theorem sprig_zzReplace.calls (k : Nat) (a0 : ByteArray) (a1 : ByteArray) (a2 : ByteArray) (a3 : Int) (r : ByteArray) (w : World) (h : sprig_zzReplace.f k a0 a1 a2 a3 = some r) :
    Calls Tryd.prog 48 #[.string a0, .string a1, .string a2, .int .i64 a3] w fun e w' => e = .returned (.string r) ∧ Below w.heap.size w w' := by
  have HB := Aside0.mk (Below.refl w.heap.size w)
  have H : (sprig_zzReplace.l0 k a0 a1 a2 a3 ([] : List Int) 0 0) = some r := h
  clear h
  have H' := Aside0.mk H
  clear H
  go_enter Tryd.func48, Tryd.ntmps48
  go_wp2
  go_loopg [9, 10, 11] k (fun kq v9 v10 v11 w' => ∃ (x9_1 : List Int) (x10_1 : Int) (x11_1 : Int), v10 = .int .i64 x10_1 ∧ v11 = .int .i64 x11_1 ∧ Aside0 (sprig_zzReplace.l0 kq a0 a1 a2 a3 x9_1 x10_1 x11_1 = some r) ∧ Aside0 (kq ≤ k) ∧ Aside0 (Kd.R (Kd.int .u8) 5 w' w.heap.size (fun _ => True) v9 x9_1) ∧ Aside0 (Below w.heap.size w w'))
  case atStart => exact ⟨(([] : List Int)), (0), (0), (by first | rfl | (simp; done) | (simp [*]; done)), (by first | rfl | (simp; done) | (simp [*]; done)), H', ⟨Nat.le_refl _⟩, ⟨by first | exact Kd.R_nil _ _ _ _ _ | exact Kd.N_nil _ _ _ _ _ | exact Kd.V_nil _ _ _ _ _ | exact Kd.Q_nil _ _ _ _ _ | exact Kd.S_nil _ _ _ _ _⟩, ⟨by repeat (first | (with_reducible first | exact HB.out | apply below_alloc | apply pw_below_drewN | apply below_drew1) | exact HB.out)⟩⟩
  case round =>
    clear H'
    try clear p2
    try clear c4
    obtain ⟨x9_1, x10_1, x11_1, rfl, rfl, HA, HK1, HO_9, HB⟩ := hrel
    cases gk with
    | zero => exact absurd HA.out (by simp [sprig_zzReplace.l0])
    | succ k1 =>
      have H := HA.out
      clear HA
      simp only [sprig_zzReplace.l0] at H
      have HC5 := Aside0.mk H
      clear H
      go_upto_region 4 with (fail)
      go_cut [22] (fun v22 wc => ∃ (kq : Nat) (x22_4 : Bool), v22 = .bool x22_4 ∧ Aside0 (sprig_zzReplace.j1 kq a0 a1 a2 a3 x9_1 x10_1 x11_1 x22_4 = some r) ∧ Aside0 (kq ≤ k1) ∧ Aside0 (Kd.R (Kd.int .u8) 5 wc w.heap.size (fun _ => True) u9 x9_1) ∧ Aside0 (Below w.heap.size w wc))
      case first =>
        have H := HC5.out
        clear HC5
        by_cases c6 : a3 < 0
        · rw [if_pos c6] at H
          have c6b0 : decide (a3 < 0) = true := decide_eq_true c6
          clear c6
          (first | rw [c6b0] | (simp only [i64_w, i32_w]; rw [c6b0]) | skip)
          have H' := Aside0.mk H
          clear H
          go_wp2
          go_meet
          case rel => exact ⟨_, (true), (by first | rfl | (simp; done) | (simp [*]; done)), H', ⟨by have := HK1.out; first | omega | exact Nat.le_refl _⟩, ⟨by (with_reducible repeat (first | apply Kd.R_alloc | apply Kd.R_drewN | apply Kd.R_drew)); exact HO_9.out⟩, ⟨by repeat (first | (with_reducible first | exact HB.out | apply below_alloc | apply pw_below_drewN | apply below_drew1) | exact HB.out)⟩⟩
        · rw [if_neg c6] at H
          have c6b0 : decide (a3 < 0) = false := decide_eq_false c6
          clear c6
          (first | rw [c6b0] | (simp only [i64_w, i32_w]; rw [c6b0]) | skip)
          have H' := Aside0.mk H
          clear H
          go_wp2
          go_meet
          case rel => exact ⟨_, (decide (x11_1 < a3)), (by first | rfl | (simp; done) | (simp [*]; done)), H', ⟨by have := HK1.out; first | omega | exact Nat.le_refl _⟩, ⟨by (with_reducible repeat (first | apply Kd.R_alloc | apply Kd.R_drewN | apply Kd.R_drew)); exact HO_9.out⟩, ⟨by repeat (first | (with_reducible first | exact HB.out | apply below_alloc | apply pw_below_drewN | apply below_drew1) | exact HB.out)⟩⟩
      case rest =>
        clear HC5
        try clear p2
        try clear c4
        try clear c6
        try clear c6b0
        try clear p2
        obtain ⟨kq, x22_4, rfl, HA, HJ4, HO_9, HB⟩ := hcut
        cases kq with
        | zero => exact absurd HA.out (by simp [sprig_zzReplace.j1])
        | succ kj4 =>
          have H := HA.out
          clear HA
          simp only [sprig_zzReplace.j1] at H
          by_cases c7 : x22_4 = true
          · subst c7
            have H1 : (if (a1.size : Int) = 0 then (none) else (if 0 ≤ x10_1 then (if x10_1 ≤ (a0.size : Int) then ((sprig_zzIndex.f kj4 (a0.extract (x10_1 : Int).toNat a0.size) a1).bind fun t118 => (if t118 < 0 then (if x9_1.length + (a0.extract (x10_1 : Int).toNat a0.size).size < 140737488355328 then (some (strOfNums (x9_1 ++ bytesOf (a0.extract (x10_1 : Int).toNat a0.size)))) else (none)) else (if x10_1 ≤ (wrap64 (x10_1 + t118)) then (if (wrap64 (x10_1 + t118)) ≤ (a0.size : Int) then (if x9_1.length + (a0.extract (x10_1 : Int).toNat ((wrap64 (x10_1 + t118)) : Int).toNat).size < 140737488355328 then ((some (x9_1 ++ bytesOf (a0.extract (x10_1 : Int).toNat ((wrap64 (x10_1 + t118)) : Int).toNat) : List Int)).bind fun y122 => (if y122.length + a2.size < 140737488355328 then (sprig_zzReplace.l0 kj4 a0 a1 a2 a3 (y122 ++ bytesOf a2) (wrap64 ((wrap64 (x10_1 + t118)) + (a1.size : Int))) (wrap64 (x11_1 + 1))) else (none))) else (none)) else (none)) else (none)))) else (none)) else (none))) = some r := by rw [if_pos rfl] at H; exact H
            clear H
            have H := H1
            clear H1
            by_cases c8 : (a1.size : Int) = 0
            · rw [if_pos c8] at H
              exact absurd H (by simp)
            · rw [if_neg c8] at H
              have c8b0 : ((a1.size : Int) == 0) = false := beq_eq_false_iff_ne.mpr c8
              have c8b1 : ((a1.size : Int) != 0) = true := bne_iff_ne.mpr c8
              by_cases c9 : 0 ≤ x10_1
              · rw [if_pos c9] at H
                have c9b0 := eq_true c9
                have c9b1 : decide (0 ≤ x10_1) = true := decide_eq_true c9
                clear c9
                by_cases c10 : x10_1 ≤ (a0.size : Int)
                · rw [if_pos c10] at H
                  have c10b0 := eq_true c10
                  have c10b1 : decide (x10_1 ≤ (a0.size : Int)) = true := decide_eq_true c10
                  clear c10
                  replace H := Option.bind_eq_some_iff.mp H
                  obtain ⟨t118, A110, H⟩ := H
                  replace H : (if t118 < 0 then (if x9_1.length + (a0.extract (x10_1 : Int).toNat a0.size).size < 140737488355328 then (some (strOfNums (x9_1 ++ bytesOf (a0.extract (x10_1 : Int).toNat a0.size)))) else (none)) else (if x10_1 ≤ (wrap64 (x10_1 + t118)) then (if (wrap64 (x10_1 + t118)) ≤ (a0.size : Int) then (if x9_1.length + (a0.extract (x10_1 : Int).toNat ((wrap64 (x10_1 + t118)) : Int).toNat).size < 140737488355328 then ((some (x9_1 ++ bytesOf (a0.extract (x10_1 : Int).toNat ((wrap64 (x10_1 + t118)) : Int).toNat) : List Int)).bind fun y122 => (if y122.length + a2.size < 140737488355328 then (sprig_zzReplace.l0 kj4 a0 a1 a2 a3 (y122 ++ bytesOf a2) (wrap64 ((wrap64 (x10_1 + t118)) + (a1.size : Int))) (wrap64 (x11_1 + 1))) else (none))) else (none)) else (none)) else (none))) = some r := H
                  have A11 := Aside0.mk A110
                  clear A110
                  by_cases c12 : t118 < 0
                  · rw [if_pos c12] at H
                    have c12b0 : decide (t118 < 0) = true := decide_eq_true c12
                    clear c12
                    have c13b0 := eq_true (of_decide_eq_true (by first | (with_reducible assumption) | assumption) : 0 ≤ x10_1)
                    have c14b0 := eq_true (of_decide_eq_true (by first | (with_reducible assumption) | assumption) : x10_1 ≤ (a0.size : Int))
                    by_cases c15 : x9_1.length + (a0.extract (x10_1 : Int).toNat a0.size).size < 140737488355328
                    · rw [if_pos c15] at H
                      have LMc15 := Aside0.mk c15
                      clear c15
                      obtain ⟨y119, hy119⟩ : ∃ y_ : List Int, y_ = (x9_1 ++ bytesOf (a0.extract (x10_1 : Int).toNat a0.size)) := ⟨_, rfl⟩
                      replace H : (some (strOfNums y119)) = some r := by first | (rw [hy119]; with_reducible exact H) | (have H2_ := (Option.bind_some _ _).symm.trans H; rw [hy119]; with_reducible exact H2_) | (have H2_ := (Option.bind_some _ _).symm.trans H; with_reducible exact H2_) | with_reducible exact H | (rw [hy119]; exact H) | exact H
                      have Ny119 := Aside0.mk hy119
                      clear hy119
                      obtain rfl := Option.some.inj H
                      go_wp2_with (first | ((with_reducible refine gate_callee (f := 63) rfl ?_); refine goesL_ (some 49) rfl rfl Tryd.func63 (by kernel_rfl) rfl #[.string (a0.extract (x10_1 : Int).toNat a0.size), .string a1] rfl (by (try simp only [List.map_toArray, List.map_cons, List.map_nil]); first | done | rfl | (simp only [List.length_drop, List.length_take]; rfl)) ?_; (with_reducible refine (sprig_zzIndex.calls kj4 (a0.extract (x10_1 : Int).toNat a0.size) a1 t118 _ A11.out).mono ?_); rintro e w' ⟨rfl, ⟨nd, rfl⟩⟩; refine ⟨_, rfl, ?_⟩) | (at_builtin; refine print_append_str (w0 := w) w.heap.size rfl (.tmp 68) _ 37 9 5 rfl Tryd.underlying37 Tryd.underlying9 info5 u9 x9_1 (a0.extract (x10_1 : Int).toNat a0.size) rfl rfl ?aO ?aB ?aS ?aL ?_; (case aB => exact (by repeat (first | (with_reducible first | exact HB.out | apply below_alloc | apply pw_below_drewN | apply below_drew1) | exact HB.out))); (case aO => exact (Kd.own_of_R (by (with_reducible repeat (first | apply Kd.R_alloc | apply Kd.R_drewN | apply Kd.R_drew)); exact HO_9.out))); (case aS => exact (below_size (by repeat (first | (with_reducible first | exact HB.out | apply below_alloc | apply pw_below_drewN | apply below_drew1) | exact HB.out)))); (case aL => have := LMc15.out; omega); intro v120 w16 ho0 hb hg; have ho := Kd.R_of_own (h1 := fun _ => rfl) (ok := fun _ => True) ho0 (fun _ _ => trivial); clear ho0; have hat := True.intro; rw [← Ny119.out] at ho; change Kd.R (Kd.int .u8) 5 w16 w.heap.size (fun _ => True) v120 y119 at ho; have n0_ := Aside0.mk (hb); have n1_ := Aside0.mk (ho); clear HB; clear HO_9; have HB := n0_; have HO121 := n1_; clear n0_ n1_; clear ho hb hg hat; have hcv17 := own_string (P := Tryd.prog) Tryd.underlying37 Tryd.underlying5 Tryd.underlying9 (Kd.own_of_R HO121.out)))
                      go_ret
                      exact ⟨by first | rfl | (simp [errW_none, errW_some] <;> rfl) | (simp [*, errW_none, errW_some] <;> rfl), by repeat (first | (with_reducible first | exact HB.out | apply below_alloc | apply pw_below_drewN | apply below_drew1) | exact HB.out)⟩
                    · rw [if_neg c15] at H
                      exact absurd H (by simp)
                  · rw [if_neg c12] at H
                    have c12b0 : decide (t118 < 0) = false := decide_eq_false c12
                    clear c12
                    have c18b0 := eq_true (of_decide_eq_true (by first | (with_reducible assumption) | assumption) : 0 ≤ x10_1)
                    by_cases c19 : x10_1 ≤ (wrap64 (x10_1 + t118))
                    · rw [if_pos c19] at H
                      have c19b0 := eq_true c19
                      have c19b1 : decide (x10_1 ≤ (wrap64 (x10_1 + t118))) = true := decide_eq_true c19
                      by_cases c20 : (wrap64 (x10_1 + t118)) ≤ (a0.size : Int)
                      · rw [if_pos c20] at H
                        have c20b0 := eq_true c20
                        have c20b1 : decide ((wrap64 (x10_1 + t118)) ≤ (a0.size : Int)) = true := decide_eq_true c20
                        by_cases c21 : x9_1.length + (a0.extract (x10_1 : Int).toNat ((wrap64 (x10_1 + t118)) : Int).toNat).size < 140737488355328
                        · rw [if_pos c21] at H
                          have LMc21 := Aside0.mk c21
                          clear c21
                          obtain ⟨y122, hy122⟩ : ∃ y_ : List Int, y_ = (x9_1 ++ bytesOf (a0.extract (x10_1 : Int).toNat ((wrap64 (x10_1 + t118)) : Int).toNat)) := ⟨_, rfl⟩
                          replace H : (if y122.length + a2.size < 140737488355328 then (sprig_zzReplace.l0 kj4 a0 a1 a2 a3 (y122 ++ bytesOf a2) (wrap64 ((wrap64 (x10_1 + t118)) + (a1.size : Int))) (wrap64 (x11_1 + 1))) else (none)) = some r := by first | (rw [hy122]; with_reducible exact H) | (have H2_ := (Option.bind_some _ _).symm.trans H; rw [hy122]; with_reducible exact H2_) | (have H2_ := (Option.bind_some _ _).symm.trans H; with_reducible exact H2_) | with_reducible exact H | (rw [hy122]; exact H) | exact H
                          have Ny122 := Aside0.mk hy122
                          clear hy122
                          by_cases c22 : y122.length + a2.size < 140737488355328
                          · rw [if_pos c22] at H
                            have LMc22 := Aside0.mk c22
                            clear c22
                            obtain ⟨y125, hy125⟩ : ∃ y_ : List Int, y_ = (y122 ++ bytesOf a2) := ⟨_, rfl⟩
                            replace H : (sprig_zzReplace.l0 kj4 a0 a1 a2 a3 y125 (wrap64 ((wrap64 (x10_1 + t118)) + (a1.size : Int))) (wrap64 (x11_1 + 1))) = some r := by first | (rw [hy125]; with_reducible exact H) | (have H2_ := (Option.bind_some _ _).symm.trans H; rw [hy125]; with_reducible exact H2_) | (have H2_ := (Option.bind_some _ _).symm.trans H; with_reducible exact H2_) | with_reducible exact H | (rw [hy125]; exact H) | exact H
                            have Ny125 := Aside0.mk hy125
                            clear hy125
                            have H' := Aside0.mk H
                            clear H
                            go_wp2_with (first | ((with_reducible refine gate_callee (f := 63) rfl ?_); refine goesL_ (some 49) rfl rfl Tryd.func63 (by kernel_rfl) rfl #[.string (a0.extract (x10_1 : Int).toNat a0.size), .string a1] rfl (by (try simp only [List.map_toArray, List.map_cons, List.map_nil]); first | done | rfl | (simp only [List.length_drop, List.length_take]; rfl)) ?_; (with_reducible refine (sprig_zzIndex.calls kj4 (a0.extract (x10_1 : Int).toNat a0.size) a1 t118 _ A11.out).mono ?_); rintro e w' ⟨rfl, ⟨nd, rfl⟩⟩; refine ⟨_, rfl, ?_⟩) | (at_builtin; refine print_append_str (w0 := w) w.heap.size rfl (.tmp 55) _ 37 9 5 rfl Tryd.underlying37 Tryd.underlying9 info5 u9 x9_1 (a0.extract (x10_1 : Int).toNat ((wrap64 (x10_1 + t118)) : Int).toNat) rfl rfl ?aO ?aB ?aS ?aL ?_; (case aB => exact (by repeat (first | (with_reducible first | exact HB.out | apply below_alloc | apply pw_below_drewN | apply below_drew1) | exact HB.out))); (case aO => exact (Kd.own_of_R (by (with_reducible repeat (first | apply Kd.R_alloc | apply Kd.R_drewN | apply Kd.R_drew)); exact HO_9.out))); (case aS => exact (below_size (by repeat (first | (with_reducible first | exact HB.out | apply below_alloc | apply pw_below_drewN | apply below_drew1) | exact HB.out)))); (case aL => have := LMc21.out; omega); intro v123 w23 ho0 hb hg; have ho := Kd.R_of_own (h1 := fun _ => rfl) (ok := fun _ => True) ho0 (fun _ _ => trivial); clear ho0; have hat := True.intro; rw [← Ny122.out] at ho; change Kd.R (Kd.int .u8) 5 w23 w.heap.size (fun _ => True) v123 y122 at ho; have n0_ := Aside0.mk (hb); have n1_ := Aside0.mk (ho); clear HB; clear HO_9; have HB := n0_; have HO124 := n1_; clear n0_ n1_; clear ho hb hg hat) | (at_builtin; refine print_append_str (w0 := w) w.heap.size rfl (.tmp 61) _ 37 9 5 rfl Tryd.underlying37 Tryd.underlying9 info5 v123 y122 a2 rfl rfl ?aO ?aB ?aS ?aL ?_; (case aB => exact (by repeat (first | (with_reducible first | exact HB.out | apply below_alloc | apply pw_below_drewN | apply below_drew1) | exact HB.out))); (case aO => exact (Kd.own_of_R (by (with_reducible repeat (first | apply Kd.R_alloc | apply Kd.R_drewN | apply Kd.R_drew)); exact HO124.out))); (case aS => exact (below_size (by repeat (first | (with_reducible first | exact HB.out | apply below_alloc | apply pw_below_drewN | apply below_drew1) | exact HB.out)))); (case aL => have := LMc22.out; omega); intro v126 w24 ho0 hb hg; have ho := Kd.R_of_own (h1 := fun _ => rfl) (ok := fun _ => True) ho0 (fun _ _ => trivial); clear ho0; have hat := True.intro; rw [← Ny125.out] at ho; change Kd.R (Kd.int .u8) 5 w24 w.heap.size (fun _ => True) v126 y125 at ho; have n0_ := Aside0.mk (hb); have n1_ := Aside0.mk (ho); clear HB; clear HO124; have HB := n0_; have HO127 := n1_; clear n0_ n1_; clear ho hb hg hat))
                            go_roundg kj4
                            case measure => have := HK1.out; have := HJ4.out; omega
                            case rel => exact ⟨(y125), (wrap64 ((wrap64 (x10_1 + t118)) + (a1.size : Int))), (wrap64 (x11_1 + 1)), (by first | rfl | (simp; done) | (simp [*]; done)), (by first | rfl | (simp; done) | (simp [*]; done)), H', ⟨by have := HK1.out; have := HJ4.out; omega⟩, ⟨by (with_reducible repeat (first | apply Kd.R_alloc | apply Kd.R_drewN | apply Kd.R_drew)); exact HO127.out⟩, ⟨by repeat (first | (with_reducible first | exact HB.out | apply below_alloc | apply pw_below_drewN | apply below_drew1) | exact HB.out)⟩⟩
                          · rw [if_neg c22] at H
                            exact absurd H (by simp)
                        · rw [if_neg c21] at H
                          exact absurd H (by simp)
                      · rw [if_neg c20] at H
                        exact absurd H (by simp)
                    · rw [if_neg c19] at H
                      exact absurd H (by simp)
                · rw [if_neg c10] at H
                  exact absurd H (by simp)
              · rw [if_neg c9] at H
                exact absurd H (by simp)
          · replace c7 := Bool.eq_false_iff.mpr c7
            subst c7
            have H1 : (if 0 ≤ x10_1 then (if x10_1 ≤ (a0.size : Int) then (if x9_1.length + (a0.extract (x10_1 : Int).toNat a0.size).size < 140737488355328 then (some (strOfNums (x9_1 ++ bytesOf (a0.extract (x10_1 : Int).toNat a0.size)))) else (none)) else (none)) else (none)) = some r := by rw [if_neg (show ¬ (false = true) by decide)] at H; exact H
            clear H
            have H := H1
            clear H1
            by_cases c25 : 0 ≤ x10_1
            · rw [if_pos c25] at H
              have c25b0 := eq_true c25
              have c25b1 : decide (0 ≤ x10_1) = true := decide_eq_true c25
              clear c25
              by_cases c26 : x10_1 ≤ (a0.size : Int)
              · rw [if_pos c26] at H
                have c26b0 := eq_true c26
                have c26b1 : decide (x10_1 ≤ (a0.size : Int)) = true := decide_eq_true c26
                clear c26
                by_cases c27 : x9_1.length + (a0.extract (x10_1 : Int).toNat a0.size).size < 140737488355328
                · rw [if_pos c27] at H
                  have LMc27 := Aside0.mk c27
                  clear c27
                  obtain ⟨y115, hy115⟩ : ∃ y_ : List Int, y_ = (x9_1 ++ bytesOf (a0.extract (x10_1 : Int).toNat a0.size)) := ⟨_, rfl⟩
                  replace H : (some (strOfNums y115)) = some r := by first | (rw [hy115]; with_reducible exact H) | (have H2_ := (Option.bind_some _ _).symm.trans H; rw [hy115]; with_reducible exact H2_) | (have H2_ := (Option.bind_some _ _).symm.trans H; with_reducible exact H2_) | with_reducible exact H | (rw [hy115]; exact H) | exact H
                  have Ny115 := Aside0.mk hy115
                  clear hy115
                  obtain rfl := Option.some.inj H
                  go_wp2_with (first | (at_builtin; refine print_append_str (w0 := w) w.heap.size rfl (.tmp 68) _ 37 9 5 rfl Tryd.underlying37 Tryd.underlying9 info5 u9 x9_1 (a0.extract (x10_1 : Int).toNat a0.size) rfl rfl ?aO ?aB ?aS ?aL ?_; (case aB => exact (by repeat (first | (with_reducible first | exact HB.out | apply below_alloc | apply pw_below_drewN | apply below_drew1) | exact HB.out))); (case aO => exact (Kd.own_of_R (by (with_reducible repeat (first | apply Kd.R_alloc | apply Kd.R_drewN | apply Kd.R_drew)); exact HO_9.out))); (case aS => exact (below_size (by repeat (first | (with_reducible first | exact HB.out | apply below_alloc | apply pw_below_drewN | apply below_drew1) | exact HB.out)))); (case aL => have := LMc27.out; omega); intro v116 w28 ho0 hb hg; have ho := Kd.R_of_own (h1 := fun _ => rfl) (ok := fun _ => True) ho0 (fun _ _ => trivial); clear ho0; have hat := True.intro; rw [← Ny115.out] at ho; change Kd.R (Kd.int .u8) 5 w28 w.heap.size (fun _ => True) v116 y115 at ho; have n0_ := Aside0.mk (hb); have n1_ := Aside0.mk (ho); clear HB; clear HO_9; have HB := n0_; have HO117 := n1_; clear n0_ n1_; clear ho hb hg hat; have hcv29 := own_string (P := Tryd.prog) Tryd.underlying37 Tryd.underlying5 Tryd.underlying9 (Kd.own_of_R HO117.out)))
                  go_ret
                  exact ⟨by first | rfl | (simp [errW_none, errW_some] <;> rfl) | (simp [*, errW_none, errW_some] <;> rfl), by repeat (first | (with_reducible first | exact HB.out | apply below_alloc | apply pw_below_drewN | apply below_drew1) | exact HB.out)⟩
                · rw [if_neg c27] at H
                  exact absurd H (by simp)
              · rw [if_neg c26] at H
                exact absurd H (by simp)
            · rw [if_neg c25] at H
              exact absurd H (by simp)

/-! ### sprig_indent: function 39 -/
def sprig_indent.f (k : Nat) (a0 : Int) (a1 : ByteArray) : Option (ByteArray) := (strings_Repeat.f (⟨#[32]⟩ : ByteArray) a0).bind fun t128 => (if 1 + t128.size ≤ 9223372036854775807 then ((sprig_zzReplace.f k a1 (⟨#[10]⟩ : ByteArray) ((⟨#[10]⟩ : ByteArray) ++ t128) (-1)).bind fun t129 => (if t128.size + t129.size ≤ 9223372036854775807 then (some (t128 ++ t129)) else (none))) else (none))
theorem sprig_indent.mono : ∀ a0 a1 k, LeO (sprig_indent.f k a0 a1) (sprig_indent.f (k + 1) a0 a1) := by
  intro a0 a1 k
  unfold sprig_indent.f
  repeat' first
      | (with_reducible exact sprig_zzReplace.mono _ _ _ _ _)
      | (with_reducible exact LeO.refl _)
      | (with_reducible exact LeO.none _)
      | (with_reducible refine LeO.ite ?_ ?_)
      | (with_reducible refine LeO.bind ?_ (fun _ => ?_))
      | exact sprig_zzReplace.mono _ _ _ _ _
      | exact LeO.none _
      | refine LeO.ite ?_ ?_
      | refine LeO.bind ?_ (fun _ => ?_)
set_option maxHeartbeats 8000000 in
set_option maxRecDepth 100000 in
theorem sprig_indent.calls (k : Nat) (a0 : Int) (a1 : ByteArray) (r : ByteArray) (w : World) (h : sprig_indent.f k a0 a1 = some r) :
    Calls Tryd.prog 39 #[.int .i64 a0, .string a1] w fun e w' => e = .returned (.string r) ∧ Below w.heap.size w w' := by
  have HB := Aside0.mk (Below.refl w.heap.size w)
  have H : ((strings_Repeat.f (⟨#[32]⟩ : ByteArray) a0).bind fun t128 => (if 1 + t128.size ≤ 9223372036854775807 then ((sprig_zzReplace.f k a1 (⟨#[10]⟩ : ByteArray) ((⟨#[10]⟩ : ByteArray) ++ t128) (-1)).bind fun t129 => (if t128.size + t129.size ≤ 9223372036854775807 then (some (t128 ++ t129)) else (none))) else (none))) = some r := h
  clear h
  replace H := Option.bind_eq_some_iff.mp H
  obtain ⟨t128, A30, H⟩ := H
  replace H : (if 1 + t128.size ≤ 9223372036854775807 then ((sprig_zzReplace.f k a1 (⟨#[10]⟩ : ByteArray) ((⟨#[10]⟩ : ByteArray) ++ t128) (-1)).bind fun t129 => (if t128.size + t129.size ≤ 9223372036854775807 then (some (t128 ++ t129)) else (none))) else (none)) = some r := H
  have A3 := Aside0.mk A30
  clear A30
  by_cases c4 : 1 + t128.size ≤ 9223372036854775807
  · rw [if_pos c4] at H
    have c4b0 := eq_true c4
    have c4b1 : decide (1 + t128.size ≤ 9223372036854775807) = true := decide_eq_true c4
    try have c4b2 : (9223372036854775807 < 1 + t128.size) = False := eq_false (Nat.not_lt.2 c4)
    replace H := Option.bind_eq_some_iff.mp H
    obtain ⟨t129, A50, H⟩ := H
    replace H : (if t128.size + t129.size ≤ 9223372036854775807 then (some (t128 ++ t129)) else (none)) = some r := H
    have A5 := Aside0.mk A50
    clear A50
    by_cases c6 : t128.size + t129.size ≤ 9223372036854775807
    · rw [if_pos c6] at H
      have c6b0 := eq_true c6
      have c6b1 : decide (t128.size + t129.size ≤ 9223372036854775807) = true := decide_eq_true c6
      try have c6b2 : (9223372036854775807 < t128.size + t129.size) = False := eq_false (Nat.not_lt.2 c6)
      obtain rfl := Option.some.inj H
      go_enter Tryd.func39, Tryd.ntmps39
      go_wp2_with (first | ((with_reducible refine gate_callee (f := 47) rfl ?_); refine goesL_ (some 7) rfl rfl Tryd.func47 (by kernel_rfl) rfl #[.string (⟨#[32]⟩ : ByteArray), .int .i64 a0] rfl (by (try simp only [List.map_toArray, List.map_cons, List.map_nil]); first | done | rfl | (simp only [List.length_drop, List.length_take]; rfl)) ?_; (with_reducible refine (strings_Repeat.calls (⟨#[32]⟩ : ByteArray) a0 t128 _ A3.out).mono ?_); rintro e w7 ⟨rfl, hb⟩; refine ⟨_, rfl, ?_⟩; have n0_ := Aside0.mk (below_step (by repeat (first | (with_reducible first | exact HB.out | apply below_alloc | apply pw_below_drewN | apply below_drew1) | exact HB.out)) hb); clear HB; have HB := n0_; clear n0_; (try clear hb); (try clear hb2); (try clear hk); (try clear hi)) | ((with_reducible refine gate_callee (f := 48) rfl ?_); refine goesL_ (some 12) rfl rfl Tryd.func48 (by kernel_rfl) rfl #[.string a1, .string (⟨#[10]⟩ : ByteArray), .string ((⟨#[10]⟩ : ByteArray) ++ t128), .int .i64 (-1)] rfl (by (try simp only [List.map_toArray, List.map_cons, List.map_nil]); first | done | rfl | (simp only [List.length_drop, List.length_take]; rfl)) ?_; (with_reducible refine (sprig_zzReplace.calls k a1 (⟨#[10]⟩ : ByteArray) ((⟨#[10]⟩ : ByteArray) ++ t128) (-1) t129 _ A5.out).mono ?_); rintro e w8 ⟨rfl, hb⟩; refine ⟨_, rfl, ?_⟩; have n0_ := Aside0.mk (below_step (by repeat (first | (with_reducible first | exact HB.out | apply below_alloc | apply pw_below_drewN | apply below_drew1) | exact HB.out)) hb); clear HB; have HB := n0_; clear n0_; (try clear hb); (try clear hb2); (try clear hk); (try clear hi)))
      go_ret
      exact ⟨by first | rfl | (simp [errW_none, errW_some] <;> rfl) | (simp [*, errW_none, errW_some] <;> rfl), by repeat (first | (with_reducible first | exact HB.out | apply below_alloc | apply pw_below_drewN | apply below_drew1) | exact HB.out)⟩
    · rw [if_neg c6] at H
      exact absurd H (by simp)
  · rw [if_neg c4] at H
    exact absurd H (by simp)

/-! ### sprig_Indent: function 26 -/
def sprig_Indent.f (k : Nat) (a0 : Int) (a1 : ByteArray) : Option (ByteArray) := (sprig_indent.f k a0 a1).bind fun t130 => (some t130)
theorem sprig_Indent.mono : ∀ a0 a1 k, LeO (sprig_Indent.f k a0 a1) (sprig_Indent.f (k + 1) a0 a1) := by
  intro a0 a1 k
  unfold sprig_Indent.f
  repeat' first
      | (with_reducible exact sprig_indent.mono _ _ _)
      | (with_reducible exact LeO.refl _)
      | (with_reducible exact LeO.none _)
      | (with_reducible refine LeO.ite ?_ ?_)
      | (with_reducible refine LeO.bind ?_ (fun _ => ?_))
      | exact sprig_indent.mono _ _ _
      | exact LeO.none _
      | refine LeO.ite ?_ ?_
      | refine LeO.bind ?_ (fun _ => ?_)
set_option maxHeartbeats 8000000 in
set_option maxRecDepth 100000 in
theorem sprig_Indent.calls (k : Nat) (a0 : Int) (a1 : ByteArray) (r : ByteArray) (w : World) (h : sprig_Indent.f k a0 a1 = some r) :
    Calls Tryd.prog 26 #[.int .i64 a0, .string a1] w fun e w' => e = .returned (.string r) ∧ Below w.heap.size w w' := by
  have HB := Aside0.mk (Below.refl w.heap.size w)
  have H : ((sprig_indent.f k a0 a1).bind fun t130 => (some t130)) = some r := h
  clear h
  replace H := Option.bind_eq_some_iff.mp H
  obtain ⟨t130, A30, H⟩ := H
  replace H : (some t130) = some r := H
  have A3 := Aside0.mk A30
  clear A30
  obtain rfl := Option.some.inj H
  go_enter Tryd.func26, Tryd.ntmps26
  go_wp2_with (first | ((with_reducible refine gate_callee (f := 39) rfl ?_); refine goesL_ (some 7) rfl rfl Tryd.func39 (by kernel_rfl) rfl #[.int .i64 a0, .string a1] rfl (by (try simp only [List.map_toArray, List.map_cons, List.map_nil]); first | done | rfl | (simp only [List.length_drop, List.length_take]; rfl)) ?_; (with_reducible refine (sprig_indent.calls k a0 a1 t130 _ A3.out).mono ?_); rintro e w4 ⟨rfl, hb⟩; refine ⟨_, rfl, ?_⟩; have n0_ := Aside0.mk (below_step (by repeat (first | (with_reducible first | exact HB.out | apply below_alloc | apply pw_below_drewN | apply below_drew1) | exact HB.out)) hb); clear HB; have HB := n0_; clear n0_; (try clear hb); (try clear hb2); (try clear hk); (try clear hi)))
  go_ret
  exact ⟨by first | rfl | (simp [errW_none, errW_some] <;> rfl) | (simp [*, errW_none, errW_some] <;> rfl), by repeat (first | (with_reducible first | exact HB.out | apply below_alloc | apply pw_below_drewN | apply below_drew1) | exact HB.out)⟩

-- NOT PRINTED: function 25 (impl_Indent_1)

theorem sprig_indent.panics (a0 : Int) (a1 : ByteArray) (w : World) (h : a0 < 0) :
    Calls Tryd.prog 39 #[.int .i64 a0, .string a1] w fun e w' => (∃ u pv, e = .panicked [{ v := .iface u pv, recovered := false }]) ∧ Below w.heap.size w w' := by
  go_enter Tryd.func39, Tryd.ntmps39
  go_wp2_with fail
  refine (strings_Repeat.panics _ _ _ h).mono ?_
  rintro e w' ⟨⟨u, pv, rfl⟩, hb⟩
  exact And.intro rfl (And.intro ⟨u, pv, rfl⟩ hb)
theorem sprig_Indent.panics (a0 : Int) (a1 : ByteArray) (w : World) (h : a0 < 0) :
    Calls Tryd.prog 26 #[.int .i64 a0, .string a1] w fun e w' => (∃ u pv, e = .panicked [{ v := .iface u pv, recovered := false }]) ∧ Below w.heap.size w w' := by
  go_enter Tryd.func26, Tryd.ntmps26
  go_wp2_with fail
  refine (sprig_indent.panics _ _ _ h).mono ?_
  rintro e w' ⟨⟨u, pv, rfl⟩, hb⟩
  exact And.intro rfl (And.intro ⟨u, pv, rfl⟩ hb)
-- GIVEN (a wrapper round 'caught', by program): function 10 (impl_Indent)
/-! ### impl_Indent: function 10 -/
set_option maxRecDepth 100000 in
theorem impl_Indent.inner (k : Nat) (b : Nat) (a0 : Int) (a1 : ByteArray) (x : ByteArray) (r : ByteArray) (w : World) (h : sprig_Indent.f k a0 a1 = some r)
    (h0 : w.heap[b]? = some (.cells #[.int .i64 a0] 3 (0, 0))) (h1 : w.heap[b + 1]? = some (.cells #[.string a1] 9 (0, 0))) (h2 : w.heap[b + 2]? = some (.cells #[.string x] 9 (0, 0))) :
    Calls Tryd.prog 25 #[.pointer (some ⟨b, 0, none⟩), .pointer (some ⟨b + 1, 0, none⟩), .pointer (some ⟨b + 2, 0, none⟩)] w fun e w' => e = .returned (.tuple #[]) ∧ ∃ w1, Below w.heap.size w w1 ∧ w' = w1.setCell ⟨b + 2, 0, none⟩ (.string r) := by
  have H := Lib.hid h
  clear h
  have c0 := cell_of_one h0
  have c1 := cell_of_one h1
  have HO := Lib.hid h2
  have lO := lt_of_block h2
  clear h0 h1 h2
  go_enter Tryd.func25, Tryd.ntmps25
  go_wp2_with fail
  refine (sprig_Indent.calls k _ _ r _ H.out).mono ?_
  rintro e w1 ⟨rfl, hd⟩
  have hb := hd
  have c_ : w1.cell? ⟨b + 2, 0, none⟩ = some (.string x) := (hb.cell lO).trans (cell_of_one HO.out)
  have f_ : w1.frozen? ⟨b + 2, 0, none⟩ = false := (hb.frozen lO).trans (free_of_one HO.out)
  clear hd
  clear c0 c1
  have HB := Lib.hid hb
  clear hb
  go_wp2
  go_end0
  exact ⟨rfl, w1, HB.out, rfl⟩
set_option maxRecDepth 100000 in
theorem impl_Indent.innerBad (b : Nat) (a0 : Int) (a1 : ByteArray) (x : ByteArray) (w : World) (hp : a0 < 0)
    (h0 : w.heap[b]? = some (.cells #[.int .i64 a0] 3 (0, 0))) (h1 : w.heap[b + 1]? = some (.cells #[.string a1] 9 (0, 0))) (h2 : w.heap[b + 2]? = some (.cells #[.string x] 9 (0, 0))) :
    Calls Tryd.prog 25 #[.pointer (some ⟨b, 0, none⟩), .pointer (some ⟨b + 1, 0, none⟩), .pointer (some ⟨b + 2, 0, none⟩)] w fun e w' => (∃ u pv, e = .panicked [{ v := .iface u pv, recovered := false }]) ∧ Below w.heap.size w w' := by
  have c0 := cell_of_one h0
  have c1 := cell_of_one h1
  have HO := Lib.hid h2
  have lO := lt_of_block h2
  clear h0 h1 h2
  go_enter Tryd.func25, Tryd.ntmps25
  go_wp2_with fail
  refine (sprig_Indent.panics _ _ _ hp).mono ?_
  rintro e w1 ⟨⟨u, pv, rfl⟩, hb⟩
  exact And.intro rfl (And.intro ⟨u, pv, rfl⟩ hb)
def impl_Indent.f (k : Nat) (a0 : Int) (a1 : ByteArray) : Option (ByteArray × Bool) := if a0 < 0 then some (ByteArray.empty, false) else (sprig_Indent.f k a0 a1).bind fun r => some (r, true)
theorem impl_Indent.mono : ∀ a0 a1 k, LeO (impl_Indent.f k a0 a1) (impl_Indent.f (k + 1) a0 a1) := by
  intro a0 a1 k
  unfold impl_Indent.f
  repeat' first
      | (with_reducible exact sprig_Indent.mono _ _ k)
      | (with_reducible exact LeO.refl _)
      | (with_reducible refine LeO.ite ?_ ?_)
      | (with_reducible refine LeO.bind ?_ (fun _ => ?_))
set_option maxRecDepth 100000 in
theorem impl_Indent.callsOk (k : Nat) (a0 : Int) (a1 : ByteArray) (r : ByteArray) (w : World) (h : sprig_Indent.f k a0 a1 = some r) :
    Calls Tryd.prog 10 #[.int .i64 a0, .string a1] w fun e w' => e = .returned (.tuple #[.string r, .bool true]) ∧ Below w.heap.size w w' := by
  have H := Lib.hid h
  clear h
  have hmf : ∀ (fn : Fn) (first cap : Array Value) (w : World), (Instr.makeFunc fn first cap).run Tryd.prog w = .ok (.func fn first cap) w := fun _ _ _ _ => rfl
  obtain ⟨W, hW⟩ : ∃ W, W = laidAll w [.cells #[.int .i64 a0] 3, .cells #[.string a1] 9, .cells #[.string ByteArray.empty] 9] := ⟨_, rfl⟩
  have hz : W.heap.size = w.heap.size + 3 := by rw [hW, laidAll_size]; rfl
  have hB0 : Below w.heap.size w W := by rw [hW]; exact laidAll_below _ _ _ (Below.refl _ _) (Nat.le_refl _)
  have g0 : W.heap[w.heap.size]? = some (.cells #[.int .i64 a0] 3 (0, 0)) := by rw [hW]; exact laidAll_at _ w 0 _ rfl
  have g1 : W.heap[w.heap.size + 1]? = some (.cells #[.string a1] 9 (0, 0)) := by rw [hW]; exact laidAll_at _ w 1 _ rfl
  have g2 : W.heap[w.heap.size + 2]? = some (.cells #[.string ByteArray.empty] 9 (0, 0)) := by rw [hW]; exact laidAll_at _ w 2 _ rfl
  let R : World → Prop := fun w1 => Below w.heap.size w w1 ∧ w1.heap[w.heap.size + 3]? = some (.cells #[.bool false] 4 (0, 0)) ∧ w1.heap[w.heap.size + 2]? = some (.cells #[.string r] 9 (0, 0))
  have C := impl_caught.ok 25 #[.pointer (some ⟨w.heap.size, 0, none⟩), .pointer (some ⟨w.heap.size + 1, 0, none⟩), .pointer (some ⟨w.heap.size + 2, 0, none⟩)] W R
    (fun w1 h => by rw [hz]; exact h.2.1) (fun w => by simp [go_sem])
    ((impl_Indent.inner k w.heap.size a0 a1 ByteArray.empty r (W.alloc (.cells #[.bool false] 4)) H.out ((blk_alloc_old (by omega)).trans g0) ((blk_alloc_old (by omega)).trans g1) ((blk_alloc_old (by omega)).trans g2)).mono (by
      rintro e w' ⟨rfl, w1, hb, rfl⟩
      have hs : (W.alloc (.cells #[.bool false] 4)).heap.size = w.heap.size + 4 := by rw [size_alloc1, hz]
      rw [hs] at hb
      refine ⟨rfl, ((hB0.alloc (by omega) _).trans (hb.mono (by omega))).setCell (by simp) _, ?_, one_setCell ((hb.block _ (by omega)).trans ((blk_alloc_old (by omega)).trans g2))⟩
      refine (Below.heap_setCell _ _ _ _ (by simp)).trans ((hb.block _ (by omega)).trans ?_)
      rw [← hz]
      exact heap_alloc_new W _))
  rw [hz] at C
  have HC := Lib.hid C
  clear C g0 g1 g2 hB0 hz
  simp only [laidAll] at hW
  subst hW
  go_enter Tryd.func10, Tryd.ntmps10
  go_wp2_with fail
  refine HC.out.mono ?_
  rintro e w' ⟨rfl, w1, ⟨q1, q2, q3⟩, rfl⟩
  have c_ := cell_of_one q3
  have f_ := free_of_one q3
  have Q1 := Lib.hid q1
  have Q3 := Lib.hid q3
  clear q1 q2 q3
  go_wp2
  refine bodyPost_ret (v := .tuple #[.string r, .bool true]) ?_ rfl ?_
  · have c3 := cell_of_one (one_setCell (u := .string r) ((Below.heap_setCell w1 ⟨w.heap.size + 3, 0, none⟩ (.bool true) (w.heap.size + 2) (by simp)).trans Q3.out))
    simp [results, Tryd.results10, go_sem, c3]
  · exact ⟨rfl, (Q1.out.setCell (by simp) _).setCell (by simp <;> omega) _⟩
set_option maxRecDepth 100000 in
theorem impl_Indent.callsBad (a0 : Int) (a1 : ByteArray) (w : World) (hp : a0 < 0) :
    Calls Tryd.prog 10 #[.int .i64 a0, .string a1] w fun e w' => e = .returned (.tuple #[.string ByteArray.empty, .bool false]) ∧ Below w.heap.size w w' := by
  have hmf : ∀ (fn : Fn) (first cap : Array Value) (w : World), (Instr.makeFunc fn first cap).run Tryd.prog w = .ok (.func fn first cap) w := fun _ _ _ _ => rfl
  obtain ⟨W, hW⟩ : ∃ W, W = laidAll w [.cells #[.int .i64 a0] 3, .cells #[.string a1] 9, .cells #[.string ByteArray.empty] 9] := ⟨_, rfl⟩
  have hz : W.heap.size = w.heap.size + 3 := by rw [hW, laidAll_size]; rfl
  have hB0 : Below w.heap.size w W := by rw [hW]; exact laidAll_below _ _ _ (Below.refl _ _) (Nat.le_refl _)
  have g0 : W.heap[w.heap.size]? = some (.cells #[.int .i64 a0] 3 (0, 0)) := by rw [hW]; exact laidAll_at _ w 0 _ rfl
  have g1 : W.heap[w.heap.size + 1]? = some (.cells #[.string a1] 9 (0, 0)) := by rw [hW]; exact laidAll_at _ w 1 _ rfl
  have g2 : W.heap[w.heap.size + 2]? = some (.cells #[.string ByteArray.empty] 9 (0, 0)) := by rw [hW]; exact laidAll_at _ w 2 _ rfl
  let R : World → Prop := fun w1 => Below w.heap.size w w1 ∧ w1.heap[w.heap.size + 3]? = some (.cells #[.bool false] 4 (0, 0)) ∧ w1.heap[w.heap.size + 2]? = some (.cells #[.string ByteArray.empty] 9 (0, 0))
  have C := impl_caught.bad 25 #[.pointer (some ⟨w.heap.size, 0, none⟩), .pointer (some ⟨w.heap.size + 1, 0, none⟩), .pointer (some ⟨w.heap.size + 2, 0, none⟩)] W R
    (fun w1 h => by rw [hz]; exact h.2.1) (fun w => by simp [go_sem])
    ((impl_Indent.innerBad w.heap.size a0 a1 ByteArray.empty (W.alloc (.cells #[.bool false] 4)) hp ((blk_alloc_old (by omega)).trans g0) ((blk_alloc_old (by omega)).trans g1) ((blk_alloc_old (by omega)).trans g2)).mono (by
      rintro e w' ⟨he, hb⟩
      have hs : (W.alloc (.cells #[.bool false] 4)).heap.size = w.heap.size + 4 := by rw [size_alloc1, hz]
      rw [hs] at hb
      refine ⟨he, ((hB0.alloc (by omega) _).trans (hb.mono (by omega))), ?_, (hb.block _ (by omega)).trans ((blk_alloc_old (by omega)).trans g2)⟩
      refine (hb.block _ (by omega)).trans ?_
      rw [← hz]
      exact heap_alloc_new W _))
  rw [hz] at C
  have HC := Lib.hid C
  clear C g0 g1 g2 hB0 hz
  simp only [laidAll] at hW
  subst hW
  go_enter Tryd.func10, Tryd.ntmps10
  go_wp2_with fail
  refine HC.out.mono ?_
  rintro e w' ⟨rfl, w1, ⟨q1, q2, q3⟩, rfl⟩
  have c_ := cell_of_one q3
  have f_ := free_of_one q3
  have Q1 := Lib.hid q1
  have Q3 := Lib.hid q3
  clear q1 q2 q3
  go_wp2
  refine bodyPost_ret (v := .tuple #[.string ByteArray.empty, .bool false]) ?_ rfl ?_
  · have c3 := cell_of_one (one_setCell (u := .string ByteArray.empty) ((Below.heap_setCell w1 ⟨w.heap.size + 3, 0, none⟩ (.bool false) (w.heap.size + 2) (by simp)).trans Q3.out))
    simp [results, Tryd.results10, go_sem, c3]
  · exact ⟨rfl, (Q1.out.setCell (by simp) _).setCell (by simp <;> omega) _⟩
theorem impl_Indent.calls (k : Nat) (a0 : Int) (a1 : ByteArray) (r1 : ByteArray) (r2 : Bool) (w : World) (h : impl_Indent.f k a0 a1 = some (r1, r2)) :
    Calls Tryd.prog 10 #[.int .i64 a0, .string a1] w fun e w' => e = .returned (.tuple #[.string r1, .bool r2]) ∧ Below w.heap.size w w' := by
  unfold impl_Indent.f at h
  by_cases hp : a0 < 0
  · rw [if_pos hp] at h
    simp only [Option.some.injEq, Prod.mk.injEq] at h
    obtain ⟨rfl, rfl⟩ := h
    exact impl_Indent.callsBad a0 a1 w hp
  · rw [if_neg hp] at h
    obtain ⟨r, hr, he⟩ := Option.bind_eq_some_iff.1 h
    simp only [Option.some.injEq, Prod.mk.injEq] at he
    obtain ⟨rfl, rfl⟩ := he
    exact impl_Indent.callsOk k a0 a1 r w hr

/-! ### sprig_nindent: function 40 -/
def sprig_nindent.f (k : Nat) (a0 : Int) (a1 : ByteArray) : Option (ByteArray) := (sprig_indent.f k a0 a1).bind fun t131 => (if 1 + t131.size ≤ 9223372036854775807 then (some ((⟨#[10]⟩ : ByteArray) ++ t131)) else (none))
theorem sprig_nindent.mono : ∀ a0 a1 k, LeO (sprig_nindent.f k a0 a1) (sprig_nindent.f (k + 1) a0 a1) := by
  intro a0 a1 k
  unfold sprig_nindent.f
  repeat' first
      | (with_reducible exact sprig_indent.mono _ _ _)
      | (with_reducible exact LeO.refl _)
      | (with_reducible exact LeO.none _)
      | (with_reducible refine LeO.ite ?_ ?_)
      | (with_reducible refine LeO.bind ?_ (fun _ => ?_))
      | exact sprig_indent.mono _ _ _
      | exact LeO.none _
      | refine LeO.ite ?_ ?_
      | refine LeO.bind ?_ (fun _ => ?_)
set_option maxHeartbeats 8000000 in
set_option maxRecDepth 100000 in
theorem sprig_nindent.calls (k : Nat) (a0 : Int) (a1 : ByteArray) (r : ByteArray) (w : World) (h : sprig_nindent.f k a0 a1 = some r) :
    Calls Tryd.prog 40 #[.int .i64 a0, .string a1] w fun e w' => e = .returned (.string r) ∧ Below w.heap.size w w' := by
  have HB := Aside0.mk (Below.refl w.heap.size w)
  have H : ((sprig_indent.f k a0 a1).bind fun t131 => (if 1 + t131.size ≤ 9223372036854775807 then (some ((⟨#[10]⟩ : ByteArray) ++ t131)) else (none))) = some r := h
  clear h
  replace H := Option.bind_eq_some_iff.mp H
  obtain ⟨t131, A30, H⟩ := H
  replace H : (if 1 + t131.size ≤ 9223372036854775807 then (some ((⟨#[10]⟩ : ByteArray) ++ t131)) else (none)) = some r := H
  have A3 := Aside0.mk A30
  clear A30
  by_cases c4 : 1 + t131.size ≤ 9223372036854775807
  · rw [if_pos c4] at H
    have c4b0 := eq_true c4
    have c4b1 : decide (1 + t131.size ≤ 9223372036854775807) = true := decide_eq_true c4
    try have c4b2 : (9223372036854775807 < 1 + t131.size) = False := eq_false (Nat.not_lt.2 c4)
    obtain rfl := Option.some.inj H
    go_enter Tryd.func40, Tryd.ntmps40
    go_wp2_with (first | ((with_reducible refine gate_callee (f := 39) rfl ?_); refine goesL_ (some 7) rfl rfl Tryd.func39 (by kernel_rfl) rfl #[.int .i64 a0, .string a1] rfl (by (try simp only [List.map_toArray, List.map_cons, List.map_nil]); first | done | rfl | (simp only [List.length_drop, List.length_take]; rfl)) ?_; (with_reducible refine (sprig_indent.calls k a0 a1 t131 _ A3.out).mono ?_); rintro e w5 ⟨rfl, hb⟩; refine ⟨_, rfl, ?_⟩; have n0_ := Aside0.mk (below_step (by repeat (first | (with_reducible first | exact HB.out | apply below_alloc | apply pw_below_drewN | apply below_drew1) | exact HB.out)) hb); clear HB; have HB := n0_; clear n0_; (try clear hb); (try clear hb2); (try clear hk); (try clear hi)))
    go_ret
    exact ⟨by first | rfl | (simp [errW_none, errW_some] <;> rfl) | (simp [*, errW_none, errW_some] <;> rfl), by repeat (first | (with_reducible first | exact HB.out | apply below_alloc | apply pw_below_drewN | apply below_drew1) | exact HB.out)⟩
  · rw [if_neg c4] at H
    exact absurd H (by simp)

/-! ### sprig_Nindent: function 28 -/
def sprig_Nindent.f (k : Nat) (a0 : Int) (a1 : ByteArray) : Option (ByteArray) := (sprig_nindent.f k a0 a1).bind fun t132 => (some t132)
theorem sprig_Nindent.mono : ∀ a0 a1 k, LeO (sprig_Nindent.f k a0 a1) (sprig_Nindent.f (k + 1) a0 a1) := by
  intro a0 a1 k
  unfold sprig_Nindent.f
  repeat' first
      | (with_reducible exact sprig_nindent.mono _ _ _)
      | (with_reducible exact LeO.refl _)
      | (with_reducible exact LeO.none _)
      | (with_reducible refine LeO.ite ?_ ?_)
      | (with_reducible refine LeO.bind ?_ (fun _ => ?_))
      | exact sprig_nindent.mono _ _ _
      | exact LeO.none _
      | refine LeO.ite ?_ ?_
      | refine LeO.bind ?_ (fun _ => ?_)
set_option maxHeartbeats 8000000 in
set_option maxRecDepth 100000 in
theorem sprig_Nindent.calls (k : Nat) (a0 : Int) (a1 : ByteArray) (r : ByteArray) (w : World) (h : sprig_Nindent.f k a0 a1 = some r) :
    Calls Tryd.prog 28 #[.int .i64 a0, .string a1] w fun e w' => e = .returned (.string r) ∧ Below w.heap.size w w' := by
  have HB := Aside0.mk (Below.refl w.heap.size w)
  have H : ((sprig_nindent.f k a0 a1).bind fun t132 => (some t132)) = some r := h
  clear h
  replace H := Option.bind_eq_some_iff.mp H
  obtain ⟨t132, A30, H⟩ := H
  replace H : (some t132) = some r := H
  have A3 := Aside0.mk A30
  clear A30
  obtain rfl := Option.some.inj H
  go_enter Tryd.func28, Tryd.ntmps28
  go_wp2_with (first | ((with_reducible refine gate_callee (f := 40) rfl ?_); refine goesL_ (some 7) rfl rfl Tryd.func40 (by kernel_rfl) rfl #[.int .i64 a0, .string a1] rfl (by (try simp only [List.map_toArray, List.map_cons, List.map_nil]); first | done | rfl | (simp only [List.length_drop, List.length_take]; rfl)) ?_; (with_reducible refine (sprig_nindent.calls k a0 a1 t132 _ A3.out).mono ?_); rintro e w4 ⟨rfl, hb⟩; refine ⟨_, rfl, ?_⟩; have n0_ := Aside0.mk (below_step (by repeat (first | (with_reducible first | exact HB.out | apply below_alloc | apply pw_below_drewN | apply below_drew1) | exact HB.out)) hb); clear HB; have HB := n0_; clear n0_; (try clear hb); (try clear hb2); (try clear hk); (try clear hi)))
  go_ret
  exact ⟨by first | rfl | (simp [errW_none, errW_some] <;> rfl) | (simp [*, errW_none, errW_some] <;> rfl), by repeat (first | (with_reducible first | exact HB.out | apply below_alloc | apply pw_below_drewN | apply below_drew1) | exact HB.out)⟩

-- NOT PRINTED: function 27 (impl_Nindent_1)

theorem sprig_nindent.panics (a0 : Int) (a1 : ByteArray) (w : World) (h : a0 < 0) :
    Calls Tryd.prog 40 #[.int .i64 a0, .string a1] w fun e w' => (∃ u pv, e = .panicked [{ v := .iface u pv, recovered := false }]) ∧ Below w.heap.size w w' := by
  go_enter Tryd.func40, Tryd.ntmps40
  go_wp2_with fail
  refine (sprig_indent.panics _ _ _ h).mono ?_
  rintro e w' ⟨⟨u, pv, rfl⟩, hb⟩
  exact And.intro rfl (And.intro ⟨u, pv, rfl⟩ hb)
theorem sprig_Nindent.panics (a0 : Int) (a1 : ByteArray) (w : World) (h : a0 < 0) :
    Calls Tryd.prog 28 #[.int .i64 a0, .string a1] w fun e w' => (∃ u pv, e = .panicked [{ v := .iface u pv, recovered := false }]) ∧ Below w.heap.size w w' := by
  go_enter Tryd.func28, Tryd.ntmps28
  go_wp2_with fail
  refine (sprig_nindent.panics _ _ _ h).mono ?_
  rintro e w' ⟨⟨u, pv, rfl⟩, hb⟩
  exact And.intro rfl (And.intro ⟨u, pv, rfl⟩ hb)
-- GIVEN (a wrapper round 'caught', by program): function 11 (impl_Nindent)
/-! ### impl_Nindent: function 11 -/
set_option maxRecDepth 100000 in
theorem impl_Nindent.inner (k : Nat) (b : Nat) (a0 : Int) (a1 : ByteArray) (x : ByteArray) (r : ByteArray) (w : World) (h : sprig_Nindent.f k a0 a1 = some r)
    (h0 : w.heap[b]? = some (.cells #[.int .i64 a0] 3 (0, 0))) (h1 : w.heap[b + 1]? = some (.cells #[.string a1] 9 (0, 0))) (h2 : w.heap[b + 2]? = some (.cells #[.string x] 9 (0, 0))) :
    Calls Tryd.prog 27 #[.pointer (some ⟨b, 0, none⟩), .pointer (some ⟨b + 1, 0, none⟩), .pointer (some ⟨b + 2, 0, none⟩)] w fun e w' => e = .returned (.tuple #[]) ∧ ∃ w1, Below w.heap.size w w1 ∧ w' = w1.setCell ⟨b + 2, 0, none⟩ (.string r) := by
  have H := Lib.hid h
  clear h
  have c0 := cell_of_one h0
  have c1 := cell_of_one h1
  have HO := Lib.hid h2
  have lO := lt_of_block h2
  clear h0 h1 h2
  go_enter Tryd.func27, Tryd.ntmps27
  go_wp2_with fail
  refine (sprig_Nindent.calls k _ _ r _ H.out).mono ?_
  rintro e w1 ⟨rfl, hd⟩
  have hb := hd
  have c_ : w1.cell? ⟨b + 2, 0, none⟩ = some (.string x) := (hb.cell lO).trans (cell_of_one HO.out)
  have f_ : w1.frozen? ⟨b + 2, 0, none⟩ = false := (hb.frozen lO).trans (free_of_one HO.out)
  clear hd
  clear c0 c1
  have HB := Lib.hid hb
  clear hb
  go_wp2
  go_end0
  exact ⟨rfl, w1, HB.out, rfl⟩
set_option maxRecDepth 100000 in
theorem impl_Nindent.innerBad (b : Nat) (a0 : Int) (a1 : ByteArray) (x : ByteArray) (w : World) (hp : a0 < 0)
    (h0 : w.heap[b]? = some (.cells #[.int .i64 a0] 3 (0, 0))) (h1 : w.heap[b + 1]? = some (.cells #[.string a1] 9 (0, 0))) (h2 : w.heap[b + 2]? = some (.cells #[.string x] 9 (0, 0))) :
    Calls Tryd.prog 27 #[.pointer (some ⟨b, 0, none⟩), .pointer (some ⟨b + 1, 0, none⟩), .pointer (some ⟨b + 2, 0, none⟩)] w fun e w' => (∃ u pv, e = .panicked [{ v := .iface u pv, recovered := false }]) ∧ Below w.heap.size w w' := by
  have c0 := cell_of_one h0
  have c1 := cell_of_one h1
  have HO := Lib.hid h2
  have lO := lt_of_block h2
  clear h0 h1 h2
  go_enter Tryd.func27, Tryd.ntmps27
  go_wp2_with fail
  refine (sprig_Nindent.panics _ _ _ hp).mono ?_
  rintro e w1 ⟨⟨u, pv, rfl⟩, hb⟩
  exact And.intro rfl (And.intro ⟨u, pv, rfl⟩ hb)
def impl_Nindent.f (k : Nat) (a0 : Int) (a1 : ByteArray) : Option (ByteArray × Bool) := if a0 < 0 then some (ByteArray.empty, false) else (sprig_Nindent.f k a0 a1).bind fun r => some (r, true)
theorem impl_Nindent.mono : ∀ a0 a1 k, LeO (impl_Nindent.f k a0 a1) (impl_Nindent.f (k + 1) a0 a1) := by
  intro a0 a1 k
  unfold impl_Nindent.f
  repeat' first
      | (with_reducible exact sprig_Nindent.mono _ _ k)
      | (with_reducible exact LeO.refl _)
      | (with_reducible refine LeO.ite ?_ ?_)
      | (with_reducible refine LeO.bind ?_ (fun _ => ?_))
set_option maxRecDepth 100000 in
theorem impl_Nindent.callsOk (k : Nat) (a0 : Int) (a1 : ByteArray) (r : ByteArray) (w : World) (h : sprig_Nindent.f k a0 a1 = some r) :
    Calls Tryd.prog 11 #[.int .i64 a0, .string a1] w fun e w' => e = .returned (.tuple #[.string r, .bool true]) ∧ Below w.heap.size w w' := by
  have H := Lib.hid h
  clear h
  have hmf : ∀ (fn : Fn) (first cap : Array Value) (w : World), (Instr.makeFunc fn first cap).run Tryd.prog w = .ok (.func fn first cap) w := fun _ _ _ _ => rfl
  obtain ⟨W, hW⟩ : ∃ W, W = laidAll w [.cells #[.int .i64 a0] 3, .cells #[.string a1] 9, .cells #[.string ByteArray.empty] 9] := ⟨_, rfl⟩
  have hz : W.heap.size = w.heap.size + 3 := by rw [hW, laidAll_size]; rfl
  have hB0 : Below w.heap.size w W := by rw [hW]; exact laidAll_below _ _ _ (Below.refl _ _) (Nat.le_refl _)
  have g0 : W.heap[w.heap.size]? = some (.cells #[.int .i64 a0] 3 (0, 0)) := by rw [hW]; exact laidAll_at _ w 0 _ rfl
  have g1 : W.heap[w.heap.size + 1]? = some (.cells #[.string a1] 9 (0, 0)) := by rw [hW]; exact laidAll_at _ w 1 _ rfl
  have g2 : W.heap[w.heap.size + 2]? = some (.cells #[.string ByteArray.empty] 9 (0, 0)) := by rw [hW]; exact laidAll_at _ w 2 _ rfl
  let R : World → Prop := fun w1 => Below w.heap.size w w1 ∧ w1.heap[w.heap.size + 3]? = some (.cells #[.bool false] 4 (0, 0)) ∧ w1.heap[w.heap.size + 2]? = some (.cells #[.string r] 9 (0, 0))
  have C := impl_caught.ok 27 #[.pointer (some ⟨w.heap.size, 0, none⟩), .pointer (some ⟨w.heap.size + 1, 0, none⟩), .pointer (some ⟨w.heap.size + 2, 0, none⟩)] W R
    (fun w1 h => by rw [hz]; exact h.2.1) (fun w => by simp [go_sem])
    ((impl_Nindent.inner k w.heap.size a0 a1 ByteArray.empty r (W.alloc (.cells #[.bool false] 4)) H.out ((blk_alloc_old (by omega)).trans g0) ((blk_alloc_old (by omega)).trans g1) ((blk_alloc_old (by omega)).trans g2)).mono (by
      rintro e w' ⟨rfl, w1, hb, rfl⟩
      have hs : (W.alloc (.cells #[.bool false] 4)).heap.size = w.heap.size + 4 := by rw [size_alloc1, hz]
      rw [hs] at hb
      refine ⟨rfl, ((hB0.alloc (by omega) _).trans (hb.mono (by omega))).setCell (by simp) _, ?_, one_setCell ((hb.block _ (by omega)).trans ((blk_alloc_old (by omega)).trans g2))⟩
      refine (Below.heap_setCell _ _ _ _ (by simp)).trans ((hb.block _ (by omega)).trans ?_)
      rw [← hz]
      exact heap_alloc_new W _))
  rw [hz] at C
  have HC := Lib.hid C
  clear C g0 g1 g2 hB0 hz
  simp only [laidAll] at hW
  subst hW
  go_enter Tryd.func11, Tryd.ntmps11
  go_wp2_with fail
  refine HC.out.mono ?_
  rintro e w' ⟨rfl, w1, ⟨q1, q2, q3⟩, rfl⟩
  have c_ := cell_of_one q3
  have f_ := free_of_one q3
  have Q1 := Lib.hid q1
  have Q3 := Lib.hid q3
  clear q1 q2 q3
  go_wp2
  refine bodyPost_ret (v := .tuple #[.string r, .bool true]) ?_ rfl ?_
  · have c3 := cell_of_one (one_setCell (u := .string r) ((Below.heap_setCell w1 ⟨w.heap.size + 3, 0, none⟩ (.bool true) (w.heap.size + 2) (by simp)).trans Q3.out))
    simp [results, Tryd.results11, go_sem, c3]
  · exact ⟨rfl, (Q1.out.setCell (by simp) _).setCell (by simp <;> omega) _⟩
set_option maxRecDepth 100000 in
theorem impl_Nindent.callsBad (a0 : Int) (a1 : ByteArray) (w : World) (hp : a0 < 0) :
    Calls Tryd.prog 11 #[.int .i64 a0, .string a1] w fun e w' => e = .returned (.tuple #[.string ByteArray.empty, .bool false]) ∧ Below w.heap.size w w' := by
  have hmf : ∀ (fn : Fn) (first cap : Array Value) (w : World), (Instr.makeFunc fn first cap).run Tryd.prog w = .ok (.func fn first cap) w := fun _ _ _ _ => rfl
  obtain ⟨W, hW⟩ : ∃ W, W = laidAll w [.cells #[.int .i64 a0] 3, .cells #[.string a1] 9, .cells #[.string ByteArray.empty] 9] := ⟨_, rfl⟩
  have hz : W.heap.size = w.heap.size + 3 := by rw [hW, laidAll_size]; rfl
  have hB0 : Below w.heap.size w W := by rw [hW]; exact laidAll_below _ _ _ (Below.refl _ _) (Nat.le_refl _)
  have g0 : W.heap[w.heap.size]? = some (.cells #[.int .i64 a0] 3 (0, 0)) := by rw [hW]; exact laidAll_at _ w 0 _ rfl
  have g1 : W.heap[w.heap.size + 1]? = some (.cells #[.string a1] 9 (0, 0)) := by rw [hW]; exact laidAll_at _ w 1 _ rfl
  have g2 : W.heap[w.heap.size + 2]? = some (.cells #[.string ByteArray.empty] 9 (0, 0)) := by rw [hW]; exact laidAll_at _ w 2 _ rfl
  let R : World → Prop := fun w1 => Below w.heap.size w w1 ∧ w1.heap[w.heap.size + 3]? = some (.cells #[.bool false] 4 (0, 0)) ∧ w1.heap[w.heap.size + 2]? = some (.cells #[.string ByteArray.empty] 9 (0, 0))
  have C := impl_caught.bad 27 #[.pointer (some ⟨w.heap.size, 0, none⟩), .pointer (some ⟨w.heap.size + 1, 0, none⟩), .pointer (some ⟨w.heap.size + 2, 0, none⟩)] W R
    (fun w1 h => by rw [hz]; exact h.2.1) (fun w => by simp [go_sem])
    ((impl_Nindent.innerBad w.heap.size a0 a1 ByteArray.empty (W.alloc (.cells #[.bool false] 4)) hp ((blk_alloc_old (by omega)).trans g0) ((blk_alloc_old (by omega)).trans g1) ((blk_alloc_old (by omega)).trans g2)).mono (by
      rintro e w' ⟨he, hb⟩
      have hs : (W.alloc (.cells #[.bool false] 4)).heap.size = w.heap.size + 4 := by rw [size_alloc1, hz]
      rw [hs] at hb
      refine ⟨he, ((hB0.alloc (by omega) _).trans (hb.mono (by omega))), ?_, (hb.block _ (by omega)).trans ((blk_alloc_old (by omega)).trans g2)⟩
      refine (hb.block _ (by omega)).trans ?_
      rw [← hz]
      exact heap_alloc_new W _))
  rw [hz] at C
  have HC := Lib.hid C
  clear C g0 g1 g2 hB0 hz
  simp only [laidAll] at hW
  subst hW
  go_enter Tryd.func11, Tryd.ntmps11
  go_wp2_with fail
  refine HC.out.mono ?_
  rintro e w' ⟨rfl, w1, ⟨q1, q2, q3⟩, rfl⟩
  have c_ := cell_of_one q3
  have f_ := free_of_one q3
  have Q1 := Lib.hid q1
  have Q3 := Lib.hid q3
  clear q1 q2 q3
  go_wp2
  refine bodyPost_ret (v := .tuple #[.string ByteArray.empty, .bool false]) ?_ rfl ?_
  · have c3 := cell_of_one (one_setCell (u := .string ByteArray.empty) ((Below.heap_setCell w1 ⟨w.heap.size + 3, 0, none⟩ (.bool false) (w.heap.size + 2) (by simp)).trans Q3.out))
    simp [results, Tryd.results11, go_sem, c3]
  · exact ⟨rfl, (Q1.out.setCell (by simp) _).setCell (by simp <;> omega) _⟩
theorem impl_Nindent.calls (k : Nat) (a0 : Int) (a1 : ByteArray) (r1 : ByteArray) (r2 : Bool) (w : World) (h : impl_Nindent.f k a0 a1 = some (r1, r2)) :
    Calls Tryd.prog 11 #[.int .i64 a0, .string a1] w fun e w' => e = .returned (.tuple #[.string r1, .bool r2]) ∧ Below w.heap.size w w' := by
  unfold impl_Nindent.f at h
  by_cases hp : a0 < 0
  · rw [if_pos hp] at h
    simp only [Option.some.injEq, Prod.mk.injEq] at h
    obtain ⟨rfl, rfl⟩ := h
    exact impl_Nindent.callsBad a0 a1 w hp
  · rw [if_neg hp] at h
    obtain ⟨r, hr, he⟩ := Option.bind_eq_some_iff.1 h
    simp only [Option.some.injEq, Prod.mk.injEq] at he
    obtain ⟨rfl, rfl⟩ := he
    exact impl_Nindent.callsOk k a0 a1 r w hr

end Go.Proofs.YtfnogloefimeiaaDoor.P
