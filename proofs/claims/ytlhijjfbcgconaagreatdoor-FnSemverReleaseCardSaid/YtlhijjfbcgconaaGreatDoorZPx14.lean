-- WRITTEN by xprint.py (a program of this session, over the kit's print) out of the translation. Not trusted: Lean checks it.
import Derived.Test.YtlhijjfbcgconaaGreatDoorZPx0
import Derived.Test.YtlhijjfbcgconaaGreatDoorZPx9
import Derived.Test.YtlhijjfbcgconaaGreatDoorZPx13
namespace Go.Proofs.YtlhijjfbcgconaaGreatDoor.P
open Go.RowKit Go.Proofs.YtlhijjfbcgconaaGreatDoorW.PrintWords Go.Proofs.YtlhijjfbcgconaaGreatDoorW.PrintLast Go.Proofs.YtlhijjfbcgconaaGreatDoorW.PrintMore
attribute [local go_sem] max2_int min2_int max_two min_two max_three min_three max_four min_four run_store_float   -- for this text's walks alone
set_option linter.unusedVariables false
set_option linter.unusedSimpArgs false

/-! ### semver_zzLoose: function 38 -/
mutual
def semver_zzLoose.j0 : Nat → ByteArray → List ByteArray → Int → Bool → Option (List ByteArray)
  | 0, _, _, _, _ => none
  | k + 1, x0, x3, x4, x20 => if x20 = true then (semver_zzLoose.j1 k x0 x3 (wrap64 (x4 + 1))) else (semver_zzLoose.j1 k x0 x3 x4)
def semver_zzLoose.j1 : Nat → ByteArray → List ByteArray → Int → Option (List ByteArray)
  | 0, _, _, _ => none
  | k + 1, x0, x3, x4 => (semver_zzDigits.f k x0 x4).bind fun t197 => (if t197 = x4 then (some ([] : List ByteArray)) else (if 0 ≤ x4 then (if x4 ≤ t197 then (if t197 ≤ (x0.size : Int) then (if 1 < (x3.length : Int) then (semver_zzLoose.l0 k x0 (x3.set (1 : Int).toNat (x0.extract (x4 : Int).toNat (t197 : Int).toNat)) t197 2) else (none)) else (none)) else (none)) else (none)))
def semver_zzLoose.j4 : Nat → ByteArray → List ByteArray → Int → Option (List ByteArray)
  | 0, _, _, _ => none
  | k + 1, x0, x3, x4 => (semver_zzParts.f k x0 x4 45).bind fun t202 => (if t202 > x4 then (if 0 ≤ x4 then (if x4 ≤ t202 then (if t202 ≤ (x0.size : Int) then (if 0 ≤ (wrap64 (x4 + 1)) then (if (wrap64 (x4 + 1)) ≤ t202 then (if 4 < (x3.length : Int) then (if 5 < (x3.length : Int) then (semver_zzLoose.j5 k x0 ((x3.set (4 : Int).toNat (x0.extract (x4 : Int).toNat (t202 : Int).toNat)).set (5 : Int).toNat (x0.extract ((wrap64 (x4 + 1)) : Int).toNat (t202 : Int).toNat)) t202) else (none)) else (none)) else (none)) else (none)) else (none)) else (none)) else (none)) else (semver_zzLoose.j5 k x0 x3 x4))
def semver_zzLoose.j5 : Nat → ByteArray → List ByteArray → Int → Option (List ByteArray)
  | 0, _, _, _ => none
  | k + 1, x0, x3, x4 => (semver_zzParts.f k x0 x4 43).bind fun t205 => (if t205 > x4 then (if 0 ≤ x4 then (if x4 ≤ t205 then (if t205 ≤ (x0.size : Int) then (if 0 ≤ (wrap64 (x4 + 1)) then (if (wrap64 (x4 + 1)) ≤ t205 then (if 7 < (x3.length : Int) then (if 8 < (x3.length : Int) then (semver_zzLoose.j6 k x0 ((x3.set (7 : Int).toNat (x0.extract (x4 : Int).toNat (t205 : Int).toNat)).set (8 : Int).toNat (x0.extract ((wrap64 (x4 + 1)) : Int).toNat (t205 : Int).toNat)) t205) else (none)) else (none)) else (none)) else (none)) else (none)) else (none)) else (none)) else (semver_zzLoose.j6 k x0 x3 x4))
def semver_zzLoose.j6 : Nat → ByteArray → List ByteArray → Int → Option (List ByteArray)
  | 0, _, _, _ => none
  | k + 1, x0, x3, x4 => if x4 = (x0.size : Int) then (some x3) else (some ([] : List ByteArray))
def semver_zzLoose.l0 : Nat → ByteArray → List ByteArray → Int → Int → Option (List ByteArray)
  | 0, _, _, _, _ => none
  | k + 1, x0, x3, x4, x6 => if x6 ≤ 3 then (if x4 < (x0.size : Int) then (if 0 ≤ x4 then (if (bt x0 x4) = 46 then ((semver_zzDigits.f k x0 (wrap64 (x4 + 1))).bind fun t199 => (semver_zzLoose.j3 k x0 x3 x4 x6 (decide (t199 > (wrap64 (x4 + 1)))))) else (semver_zzLoose.j3 k x0 x3 x4 x6 false)) else (none)) else (semver_zzLoose.j3 k x0 x3 x4 x6 false)) else (semver_zzLoose.j4 k x0 x3 x4)
def semver_zzLoose.j3 : Nat → ByteArray → List ByteArray → Int → Int → Bool → Option (List ByteArray)
  | 0, _, _, _, _, _ => none
  | k + 1, x0, x3, x4, x6, x58 => if x58 = true then ((semver_zzDigits.f k x0 (wrap64 (x4 + 1))).bind fun t200 => (if 0 ≤ x4 then (if x4 ≤ t200 then (if t200 ≤ (x0.size : Int) then (if 0 ≤ x6 then (if x6 < (x3.length : Int) then (semver_zzLoose.l0 k x0 (x3.set (x6 : Int).toNat (x0.extract (x4 : Int).toNat (t200 : Int).toNat)) t200 (wrap64 (x6 + 1))) else (none)) else (none)) else (none)) else (none)) else (none))) else (semver_zzLoose.j4 k x0 x3 x4)
end
def semver_zzLoose.f (k : Nat) (a0 : ByteArray) : Option (List ByteArray) := if 9 ≤ 17592186044416 then ((some (List.replicate 9 (⟨#[]⟩ : ByteArray) : List ByteArray)).bind fun y193 => (if 0 < (y193.length : Int) then ((some (y193.set (0 : Int).toNat a0 : List ByteArray)).bind fun y196 => (if 0 < (a0.size : Int) then (semver_zzLoose.j0 k a0 y196 0 ((bt a0 0) == 118)) else (semver_zzLoose.j0 k a0 y196 0 false))) else (none))) else (none)
theorem semver_zzLoose.mono_l : ∀ k, (∀ y0 y1 y2 y3, LeO (semver_zzLoose.j0 k y0 y1 y2 y3) (semver_zzLoose.j0 (k + 1) y0 y1 y2 y3)) ∧ (∀ y0 y1 y2, LeO (semver_zzLoose.j1 k y0 y1 y2) (semver_zzLoose.j1 (k + 1) y0 y1 y2)) ∧ (∀ y0 y1 y2, LeO (semver_zzLoose.j4 k y0 y1 y2) (semver_zzLoose.j4 (k + 1) y0 y1 y2)) ∧ (∀ y0 y1 y2, LeO (semver_zzLoose.j5 k y0 y1 y2) (semver_zzLoose.j5 (k + 1) y0 y1 y2)) ∧ (∀ y0 y1 y2, LeO (semver_zzLoose.j6 k y0 y1 y2) (semver_zzLoose.j6 (k + 1) y0 y1 y2)) ∧ (∀ y0 y1 y2 y3, LeO (semver_zzLoose.l0 k y0 y1 y2 y3) (semver_zzLoose.l0 (k + 1) y0 y1 y2 y3)) ∧ (∀ y0 y1 y2 y3 y4, LeO (semver_zzLoose.j3 k y0 y1 y2 y3 y4) (semver_zzLoose.j3 (k + 1) y0 y1 y2 y3 y4))
  | 0 => ⟨fun _ _ _ _ r h => by simp [semver_zzLoose.j0] at h, fun _ _ _ r h => by simp [semver_zzLoose.j1] at h, fun _ _ _ r h => by simp [semver_zzLoose.j4] at h, fun _ _ _ r h => by simp [semver_zzLoose.j5] at h, fun _ _ _ r h => by simp [semver_zzLoose.j6] at h, fun _ _ _ _ r h => by simp [semver_zzLoose.l0] at h, fun _ _ _ _ _ r h => by simp [semver_zzLoose.j3] at h⟩
  | k + 1 => by
    obtain ⟨ih0, ih1, ih2, ih3, ih4, ih5, ih6⟩ := semver_zzLoose.mono_l k
    refine ⟨?_, ?_, ?_, ?_, ?_, ?_, ?_⟩
    · intro y0 y1 y2 y3
      unfold semver_zzLoose.j0
      repeat' first
      | (with_reducible exact ih0 _ _ _ _)
      | (with_reducible exact ih1 _ _ _)
      | (with_reducible exact ih2 _ _ _)
      | (with_reducible exact ih3 _ _ _)
      | (with_reducible exact ih4 _ _ _)
      | (with_reducible exact ih5 _ _ _ _)
      | (with_reducible exact ih6 _ _ _ _ _)
      | (with_reducible exact semver_zzDigits.mono _ _ _)
      | (with_reducible exact semver_zzParts.mono _ _ _ _)
      | (with_reducible exact LeO.refl _)
      | (with_reducible exact LeO.none _)
      | (with_reducible refine LeO.ite ?_ ?_)
      | (with_reducible refine LeO.bind ?_ (fun _ => ?_))
      | exact ih0 _ _ _ _
      | exact ih1 _ _ _
      | exact ih2 _ _ _
      | exact ih3 _ _ _
      | exact ih4 _ _ _
      | exact ih5 _ _ _ _
      | exact ih6 _ _ _ _ _
      | exact semver_zzDigits.mono _ _ _
      | exact semver_zzParts.mono _ _ _ _
      | exact LeO.none _
      | refine LeO.ite ?_ ?_
      | refine LeO.bind ?_ (fun _ => ?_)
    · intro y0 y1 y2
      unfold semver_zzLoose.j1
      repeat' first
      | (with_reducible exact ih0 _ _ _ _)
      | (with_reducible exact ih1 _ _ _)
      | (with_reducible exact ih2 _ _ _)
      | (with_reducible exact ih3 _ _ _)
      | (with_reducible exact ih4 _ _ _)
      | (with_reducible exact ih5 _ _ _ _)
      | (with_reducible exact ih6 _ _ _ _ _)
      | (with_reducible exact semver_zzDigits.mono _ _ _)
      | (with_reducible exact semver_zzParts.mono _ _ _ _)
      | (with_reducible exact LeO.refl _)
      | (with_reducible exact LeO.none _)
      | (with_reducible refine LeO.ite ?_ ?_)
      | (with_reducible refine LeO.bind ?_ (fun _ => ?_))
      | exact ih0 _ _ _ _
      | exact ih1 _ _ _
      | exact ih2 _ _ _
      | exact ih3 _ _ _
      | exact ih4 _ _ _
      | exact ih5 _ _ _ _
      | exact ih6 _ _ _ _ _
      | exact semver_zzDigits.mono _ _ _
      | exact semver_zzParts.mono _ _ _ _
      | exact LeO.none _
      | refine LeO.ite ?_ ?_
      | refine LeO.bind ?_ (fun _ => ?_)
    · intro y0 y1 y2
      unfold semver_zzLoose.j4
      repeat' first
      | (with_reducible exact ih0 _ _ _ _)
      | (with_reducible exact ih1 _ _ _)
      | (with_reducible exact ih2 _ _ _)
      | (with_reducible exact ih3 _ _ _)
      | (with_reducible exact ih4 _ _ _)
      | (with_reducible exact ih5 _ _ _ _)
      | (with_reducible exact ih6 _ _ _ _ _)
      | (with_reducible exact semver_zzDigits.mono _ _ _)
      | (with_reducible exact semver_zzParts.mono _ _ _ _)
      | (with_reducible exact LeO.refl _)
      | (with_reducible exact LeO.none _)
      | (with_reducible refine LeO.ite ?_ ?_)
      | (with_reducible refine LeO.bind ?_ (fun _ => ?_))
      | exact ih0 _ _ _ _
      | exact ih1 _ _ _
      | exact ih2 _ _ _
      | exact ih3 _ _ _
      | exact ih4 _ _ _
      | exact ih5 _ _ _ _
      | exact ih6 _ _ _ _ _
      | exact semver_zzDigits.mono _ _ _
      | exact semver_zzParts.mono _ _ _ _
      | exact LeO.none _
      | refine LeO.ite ?_ ?_
      | refine LeO.bind ?_ (fun _ => ?_)
    · intro y0 y1 y2
      unfold semver_zzLoose.j5
      repeat' first
      | (with_reducible exact ih0 _ _ _ _)
      | (with_reducible exact ih1 _ _ _)
      | (with_reducible exact ih2 _ _ _)
      | (with_reducible exact ih3 _ _ _)
      | (with_reducible exact ih4 _ _ _)
      | (with_reducible exact ih5 _ _ _ _)
      | (with_reducible exact ih6 _ _ _ _ _)
      | (with_reducible exact semver_zzDigits.mono _ _ _)
      | (with_reducible exact semver_zzParts.mono _ _ _ _)
      | (with_reducible exact LeO.refl _)
      | (with_reducible exact LeO.none _)
      | (with_reducible refine LeO.ite ?_ ?_)
      | (with_reducible refine LeO.bind ?_ (fun _ => ?_))
      | exact ih0 _ _ _ _
      | exact ih1 _ _ _
      | exact ih2 _ _ _
      | exact ih3 _ _ _
      | exact ih4 _ _ _
      | exact ih5 _ _ _ _
      | exact ih6 _ _ _ _ _
      | exact semver_zzDigits.mono _ _ _
      | exact semver_zzParts.mono _ _ _ _
      | exact LeO.none _
      | refine LeO.ite ?_ ?_
      | refine LeO.bind ?_ (fun _ => ?_)
    · intro y0 y1 y2
      unfold semver_zzLoose.j6
      repeat' first
      | (with_reducible exact ih0 _ _ _ _)
      | (with_reducible exact ih1 _ _ _)
      | (with_reducible exact ih2 _ _ _)
      | (with_reducible exact ih3 _ _ _)
      | (with_reducible exact ih4 _ _ _)
      | (with_reducible exact ih5 _ _ _ _)
      | (with_reducible exact ih6 _ _ _ _ _)
      | (with_reducible exact semver_zzDigits.mono _ _ _)
      | (with_reducible exact semver_zzParts.mono _ _ _ _)
      | (with_reducible exact LeO.refl _)
      | (with_reducible exact LeO.none _)
      | (with_reducible refine LeO.ite ?_ ?_)
      | (with_reducible refine LeO.bind ?_ (fun _ => ?_))
      | exact ih0 _ _ _ _
      | exact ih1 _ _ _
      | exact ih2 _ _ _
      | exact ih3 _ _ _
      | exact ih4 _ _ _
      | exact ih5 _ _ _ _
      | exact ih6 _ _ _ _ _
      | exact semver_zzDigits.mono _ _ _
      | exact semver_zzParts.mono _ _ _ _
      | exact LeO.none _
      | refine LeO.ite ?_ ?_
      | refine LeO.bind ?_ (fun _ => ?_)
    · intro y0 y1 y2 y3
      unfold semver_zzLoose.l0
      repeat' first
      | (with_reducible exact ih0 _ _ _ _)
      | (with_reducible exact ih1 _ _ _)
      | (with_reducible exact ih2 _ _ _)
      | (with_reducible exact ih3 _ _ _)
      | (with_reducible exact ih4 _ _ _)
      | (with_reducible exact ih5 _ _ _ _)
      | (with_reducible exact ih6 _ _ _ _ _)
      | (with_reducible exact semver_zzDigits.mono _ _ _)
      | (with_reducible exact semver_zzParts.mono _ _ _ _)
      | (with_reducible exact LeO.refl _)
      | (with_reducible exact LeO.none _)
      | (with_reducible refine LeO.ite ?_ ?_)
      | (with_reducible refine LeO.bind ?_ (fun _ => ?_))
      | exact ih0 _ _ _ _
      | exact ih1 _ _ _
      | exact ih2 _ _ _
      | exact ih3 _ _ _
      | exact ih4 _ _ _
      | exact ih5 _ _ _ _
      | exact ih6 _ _ _ _ _
      | exact semver_zzDigits.mono _ _ _
      | exact semver_zzParts.mono _ _ _ _
      | exact LeO.none _
      | refine LeO.ite ?_ ?_
      | refine LeO.bind ?_ (fun _ => ?_)
    · intro y0 y1 y2 y3 y4
      unfold semver_zzLoose.j3
      repeat' first
      | (with_reducible exact ih0 _ _ _ _)
      | (with_reducible exact ih1 _ _ _)
      | (with_reducible exact ih2 _ _ _)
      | (with_reducible exact ih3 _ _ _)
      | (with_reducible exact ih4 _ _ _)
      | (with_reducible exact ih5 _ _ _ _)
      | (with_reducible exact ih6 _ _ _ _ _)
      | (with_reducible exact semver_zzDigits.mono _ _ _)
      | (with_reducible exact semver_zzParts.mono _ _ _ _)
      | (with_reducible exact LeO.refl _)
      | (with_reducible exact LeO.none _)
      | (with_reducible refine LeO.ite ?_ ?_)
      | (with_reducible refine LeO.bind ?_ (fun _ => ?_))
      | exact ih0 _ _ _ _
      | exact ih1 _ _ _
      | exact ih2 _ _ _
      | exact ih3 _ _ _
      | exact ih4 _ _ _
      | exact ih5 _ _ _ _
      | exact ih6 _ _ _ _ _
      | exact semver_zzDigits.mono _ _ _
      | exact semver_zzParts.mono _ _ _ _
      | exact LeO.none _
      | refine LeO.ite ?_ ?_
      | refine LeO.bind ?_ (fun _ => ?_)
theorem semver_zzLoose.mono : ∀ a0 k, LeO (semver_zzLoose.f k a0) (semver_zzLoose.f (k + 1) a0) := by
  intro a0 k
  obtain ⟨ih0, ih1, ih2, ih3, ih4, ih5, ih6⟩ := semver_zzLoose.mono_l k
  unfold semver_zzLoose.f
  repeat' first
      | (with_reducible exact ih0 _ _ _ _)
      | (with_reducible exact ih1 _ _ _)
      | (with_reducible exact ih2 _ _ _)
      | (with_reducible exact ih3 _ _ _)
      | (with_reducible exact ih4 _ _ _)
      | (with_reducible exact ih5 _ _ _ _)
      | (with_reducible exact ih6 _ _ _ _ _)
      | (with_reducible exact semver_zzDigits.mono _ _ _)
      | (with_reducible exact semver_zzParts.mono _ _ _ _)
      | (with_reducible exact LeO.refl _)
      | (with_reducible exact LeO.none _)
      | (with_reducible refine LeO.ite ?_ ?_)
      | (with_reducible refine LeO.bind ?_ (fun _ => ?_))
      | exact ih0 _ _ _ _
      | exact ih1 _ _ _
      | exact ih2 _ _ _
      | exact ih3 _ _ _
      | exact ih4 _ _ _
      | exact ih5 _ _ _ _
      | exact ih6 _ _ _ _ _
      | exact semver_zzDigits.mono _ _ _
      | exact semver_zzParts.mono _ _ _ _
      | exact LeO.none _
      | refine LeO.ite ?_ ?_
      | refine LeO.bind ?_ (fun _ => ?_)
def semver_zzLoose.T18 : Bool × List (List Nat × List Nat) := (true, [([], []), ([], []), ([], []), ([], []), ([], []), ([2, 3, 4], [2, 3, 4]), ([], []), ([], []), ([7], [7]), ([], []), ([6, 8, 9], [6, 8, 9]), ([], []), ([0, 0, 2, 3, 4, 5], [0]), ([12, 5, 0, 2, 3, 4, 5], [5, 12]), ([1, 0, 1, 2, 3, 4, 5, 6, 7, 8, 9, 10, 12, 13], [1]), ([14, 10, 13, 0, 1, 2, 3, 4, 5, 6, 7, 8, 9, 10, 12, 13], [10, 14]), ([11, 15, 0, 1, 2, 3, 4, 5, 6, 7, 8, 9, 10, 11, 12, 13, 14, 15], [3, 7, 11])])
def semver_zzLoose.B18 : List Nat := [0, 0, 0, 0, 0, 28, 0, 0, 128, 0, 960, 0, 61, 4157, 14335, 30719, 65535]
theorem semver_zzLoose.tab18 : rtab .any (opsOf Tryz.f38 18) = semver_zzLoose.T18 := by kernel_rfl
theorem semver_zzLoose.bits18 : waitsOk semver_zzLoose.T18.2 semver_zzLoose.B18 = true := by kernel_rfl
def semver_zzLoose.T21 : Bool × List (List Nat × List Nat) := (true, [([], []), ([], []), ([], []), ([], []), ([], []), ([2, 3, 4], [2, 3, 4]), ([], []), ([], []), ([7], [7]), ([], []), ([6, 8, 9], [6, 8, 9]), ([], []), ([0, 0, 2, 3, 4, 5], [0]), ([12, 5, 0, 2, 3, 4, 5], [5, 12]), ([1, 0, 1, 2, 3, 4, 5, 6, 7, 8, 9, 10, 12, 13], [1]), ([14, 10, 13, 0, 1, 2, 3, 4, 5, 6, 7, 8, 9, 10, 12, 13], [10, 14]), ([11, 15, 0, 1, 2, 3, 4, 5, 6, 7, 8, 9, 10, 11, 12, 13, 14, 15], [3, 7, 11])])
def semver_zzLoose.B21 : List Nat := [0, 0, 0, 0, 0, 28, 0, 0, 128, 0, 960, 0, 61, 4157, 14335, 30719, 65535]
theorem semver_zzLoose.tab21 : rtab .any (opsOf Tryz.f38 21) = semver_zzLoose.T21 := by kernel_rfl
theorem semver_zzLoose.bits21 : waitsOk semver_zzLoose.T21.2 semver_zzLoose.B21 = true := by kernel_rfl
set_option maxHeartbeats 8000000 in
set_option maxRecDepth 100000 in
theorem semver_zzLoose.calls (k : Nat) (a0 : ByteArray) (r : List ByteArray) (w : World) (h : semver_zzLoose.f k a0 = some r) :
    Calls Tryz.prog 38 #[.string a0] w fun e w' => ∃ v0_ : Value, e = .returned (v0_) ∧ Kd.R Kd.string 9 w' w.heap.size (fun _ => True) v0_ r ∧ Below w.heap.size w w' := by
  have HB := Aside0.mk (Below.refl w.heap.size w)
  have H : (if 9 ≤ 17592186044416 then ((some (List.replicate 9 (⟨#[]⟩ : ByteArray) : List ByteArray)).bind fun y193 => (if 0 < (y193.length : Int) then ((some (y193.set (0 : Int).toNat a0 : List ByteArray)).bind fun y196 => (if 0 < (a0.size : Int) then (semver_zzLoose.j0 k a0 y196 0 ((bt a0 0) == 118)) else (semver_zzLoose.j0 k a0 y196 0 false))) else (none))) else (none)) = some r := h
  clear h
  by_cases c2 : 9 ≤ 17592186044416
  · rw [if_pos c2] at H
    have c2b0 := eq_true c2
    have c2b1 : decide (9 ≤ 17592186044416) = true := decide_eq_true c2
    clear c2
    obtain ⟨y193, hy193⟩ : ∃ y_ : List ByteArray, y_ = (List.replicate 9 (⟨#[]⟩ : ByteArray)) := ⟨_, rfl⟩
    replace H : (if 0 < (y193.length : Int) then ((some (y193.set (0 : Int).toNat a0 : List ByteArray)).bind fun y196 => (if 0 < (a0.size : Int) then (semver_zzLoose.j0 k a0 y196 0 ((bt a0 0) == 118)) else (semver_zzLoose.j0 k a0 y196 0 false))) else (none)) = some r := by first | (rw [hy193]; with_reducible exact H) | (have H2_ := (Option.bind_some _ _).symm.trans H; rw [hy193]; with_reducible exact H2_) | (have H2_ := (Option.bind_some _ _).symm.trans H; with_reducible exact H2_) | with_reducible exact H | (rw [hy193]; exact H) | exact H
    have Ny193 := Aside0.mk hy193
    clear hy193
    by_cases c3 : 0 < (y193.length : Int)
    · rw [if_pos c3] at H
      have c3b0 : decide (0 < (y193.length : Int)) = true := decide_eq_true c3
      have c3b1 : decide (0 < y193.length) = true := decide_eq_true (by omega)
      clear c3
      obtain ⟨y196, hy196⟩ : ∃ y_ : List ByteArray, y_ = (y193.set (0 : Int).toNat a0) := ⟨_, rfl⟩
      replace H : (if 0 < (a0.size : Int) then (semver_zzLoose.j0 k a0 y196 0 ((bt a0 0) == 118)) else (semver_zzLoose.j0 k a0 y196 0 false)) = some r := by first | (rw [hy196]; with_reducible exact H) | (have H2_ := (Option.bind_some _ _).symm.trans H; rw [hy196]; with_reducible exact H2_) | (have H2_ := (Option.bind_some _ _).symm.trans H; with_reducible exact H2_) | with_reducible exact H | (rw [hy196]; exact H) | exact H
      have Ny196 := Aside0.mk hy196
      clear hy196
      have HC5 := Aside0.mk H
      clear H
      go_enter Tryz.func38, Tryz.ntmps38
      go_upto_region 4 with (first | ((with_reducible refine gate_dst (N := 7) rfl ?_); refine Kd.R_make Kd.string _ 9 rfl (N := 7) rfl 28 _ _ rfl 9 rfl rfl Tryz.underlying28 (.string ⟨#[]⟩) 16 info9 rfl (by decide) (by omega) (⟨#[]⟩ : ByteArray) (ok := fun _ => True) (okp := fun _ => True) rfl (fun _ hk => hk) trivial (by omega) (by omega) (Below.refl _ _) (Nat.le_refl _) ?_; intro v194 w6 ho7 hb hg_ hnew_; clear hg_ hnew_; (first | rw [← Ny193.out] at ho7 | (simp only [Int.reduceToNat] at ho7; rw [← Ny193.out] at ho7)); have n0_ := Aside0.mk (Kd.R_lower ho7 (below_size (by repeat (first | (with_reducible first | exact HB.out | apply below_alloc | apply pw_below_drewN | apply below_drew1) | exact HB.out)))); have n1_ := Aside0.mk (below_step (by repeat (first | (with_reducible first | exact HB.out | apply below_alloc | apply pw_below_drewN | apply below_drew1) | exact HB.out)) hb); clear HB; have HO195 := n0_; have HB := n1_; clear n0_ n1_; clear hb ho7; have p4 : 0 ≤ (0 : Int) := (by omega); have q4 : (0 : Int) < ((y193.length : Int) : Int) := of_decide_eq_true (by first | (with_reducible assumption) | assumption); have qi4 : (0 < y193.length) = True := eq_true (by omega); obtain ⟨go4, co4, eo4, gb4, gl4, cl4, HG4⟩ := Kd.R_form HO195.out (by omega); (first | cases eo4 | (injection eo4 with ea_ en_ ec_; (first | subst ea_ | (injection ea_ with ea_; subst ea_)); subst ec_; clear en_)); have GB4 := Aside0.mk gb4; have GG4 := Aside0.mk HG4; clear gb4 gl4 HG4; obtain ⟨hx4_0, hf4_0⟩ := Kd.R_celln (⟨#[]⟩ : ByteArray) HO195.out (0 : Int) p4 q4; (try rw [show ((0 : Int)).toNat = 0 from rfl] at hx4_0); (try simp only [Nat.reduceMul, Nat.zero_mul, Nat.zero_add, Nat.reduceAdd] at hx4_0); (try rw [show ((0 : Int)).toNat = 0 from rfl] at hf4_0); (try simp only [Nat.reduceMul, Nat.zero_mul, Nat.zero_add, Nat.reduceAdd] at hf4_0); replace p4 := eq_true p4; replace q4 := eq_true q4; obtain ⟨hy8_, hz8_⟩ := Kd.R_celln (⟨#[]⟩ : ByteArray) HO195.out (0 : Int) (by omega) (of_decide_eq_true (by first | (with_reducible assumption) | assumption)); (try simp only [Int.reduceToNat, Int.toNat_zero, Int.toNat_ofNat, Nat.reduceMul, Nat.zero_mul, Nat.zero_add] at hy8_ hz8_); (try rw [show ((0 : Int)).toNat = 0 from rfl] at hy8_); (try rw [show ((0 : Int)).toNat = 0 from rfl] at hz8_); have HP8 := Kd.R_putg HO195.out (0 : Int) a0) | ((with_reducible refine gate_store (t := 9) (p := 10) rfl ?_); refine store_event (t := 9) (p := 10) (v := ?vo_w9) (w1 := (w6.setCell ⟨go4, (0 : Int).toNat, none⟩ (.string a0))) ?hg ?ho ?hn ?hr ?_; (case ho => rfl); (case hg => rfl); (case hn => rfl); (case hr => first | (go_simp; done) | (go_simp; rfl)); intro w9 hw; have hg : w6.grownBy w9 (some go4) := (by rw [hw]; exact HP8.2); have hp_ : Kd.R Kd.string 9 w9 w.heap.size (fun _ => True) (.slice (some ⟨go4, 0, none⟩) y193.length co4) y196 := (by rw [hw, Ny196.out]; exact HP8.1); clear HP8; have n0_ := Aside0.mk (hp_); have n1_ := Aside0.mk ((by rw [hw]; exact below_set (HB.out) GB4.out : Below w.heap.size w w9)); clear HO195; clear HB; have HO195 := n0_; have HB := n1_; clear n0_ n1_; clear hg hw hp_))
      (try simp only [Act.put, List.setIfInBounds_toArray, List.set_cons_zero, List.set_cons_succ])
      go_cut [20] (fun v20 wc => ∃ (kq : Nat) (x20_4 : Bool), v20 = .bool x20_4 ∧ Aside0 (semver_zzLoose.j0 kq a0 y196 0 x20_4 = some r) ∧ Aside0 (kq ≤ k) ∧ Aside0 (Kd.R Kd.string 9 wc w.heap.size (fun _ => True) (.slice (some ⟨go4, 0, none⟩) y193.length co4) y196) ∧ Aside0 (Below w.heap.size w wc))
      case first =>
        have H := HC5.out
        clear HC5
        by_cases c10 : 0 < (a0.size : Int)
        · rw [if_pos c10] at H
          have c10b0 : decide (0 < (a0.size : Int)) = true := decide_eq_true c10
          have c10b1 : decide (0 < a0.size) = true := decide_eq_true (by omega)
          clear c10
          (first | rw [c10b0] | (simp only [i64_w, i32_w]; rw [c10b0]) | skip)
          as_aux_lemma =>
            have H' := Aside0.mk H
            clear H
            have p11 : 0 ≤ (0 : Int) := (by omega)
            have q11 : 0 < a0.size := (by have : (0 : Int) < (a0.size : Int) := of_decide_eq_true (by first | (with_reducible assumption) | assumption); omega)
            have hx11 : ∀ h : 0 < a0.size, ((a0[0]'h).toNat : Int) = bt a0 0 := bt_at a0 0
            clear p11
            have qi11 : (0 < (a0.size : Int)) = True := eq_true (of_decide_eq_true (by first | (with_reducible assumption) | assumption))
            replace q11 := eq_true q11
            go_wp2
            go_meet
            case rel => exact ⟨_, (((bt a0 0) == 118)), (by first | rfl | (simp only [bytesLe_not]; done) | (simp; done) | (simp [*]; done)), H', ⟨by first | omega | exact Nat.le_refl _⟩, ⟨by (with_reducible repeat (first | apply Kd.R_alloc | apply Kd.R_drewN | apply Kd.R_drew)); exact HO195.out⟩, ⟨by repeat (first | (with_reducible first | exact HB.out | apply below_alloc | apply pw_below_drewN | apply below_drew1) | exact HB.out)⟩⟩
        · rw [if_neg c10] at H
          have c10b0 : decide (0 < (a0.size : Int)) = false := decide_eq_false c10
          have c10b1 : decide (0 < a0.size) = false := decide_eq_false (by omega)
          clear c10
          (first | rw [c10b0] | (simp only [i64_w, i32_w]; rw [c10b0]) | skip)
          as_aux_lemma =>
            have H' := Aside0.mk H
            clear H
            go_wp2
            go_meet
            case rel => exact ⟨_, (false), (by first | rfl | (simp only [bytesLe_not]; done) | (simp; done) | (simp [*]; done)), H', ⟨by first | omega | exact Nat.le_refl _⟩, ⟨by (with_reducible repeat (first | apply Kd.R_alloc | apply Kd.R_drewN | apply Kd.R_drew)); exact HO195.out⟩, ⟨by repeat (first | (with_reducible first | exact HB.out | apply below_alloc | apply pw_below_drewN | apply below_drew1) | exact HB.out)⟩⟩
      case rest =>
        clear HC5
        try clear c1
        try clear p1
        try clear q1
        try clear hx1
        try clear qi1
        try clear c2
        try clear c2b0
        try clear c2b1
        try clear p2
        try clear c3
        try clear c3b0
        try clear c3b1
        try clear p4
        try clear q4
        try clear hx4
        try clear qi4
        try clear hf4
        try clear c10
        try clear c10b0
        try clear c10b1
        try clear p11
        try clear q11
        try clear hx11
        try clear qi11
        try clear hx4_0
        try clear p11
        try clear p4
        try clear q11
        try clear q4
        obtain ⟨kq, x20_4, rfl, HA, HJ4, HO_3, HB⟩ := hcut
        have hl3_4 := (Kd.R_reads' HO_3.out).1
        rw [hl3_4] at HO_3
        (try simp only [hl3_4])
        cases kq with
        | zero => exact absurd HA.out (by simp [semver_zzLoose.j0])
        | succ kj4 =>
          have H := HA.out
          clear HA
          simp only [semver_zzLoose.j0] at H
          have HC12 := Aside0.mk H
          clear H
          go_upto_if 20 with (fail)
          go_cut [4] (fun v4 wc => ∃ (kq : Nat) (x4_11 : Int), v4 = .int .i64 x4_11 ∧ Aside0 (semver_zzLoose.j1 kq a0 y196 x4_11 = some r) ∧ Aside0 (kq ≤ kj4) ∧ Aside0 (Kd.R Kd.string 9 wc w.heap.size (fun _ => True) (.slice (some ⟨go4, 0, none⟩) y196.length co4) y196) ∧ Aside0 (Below w.heap.size w wc))
          case first =>
            have H := HC12.out
            clear HC12
            by_cases c13 : x20_4 = true
            · subst c13
              have H1 : (semver_zzLoose.j1 kj4 a0 y196 (wrap64 (0 + 1))) = some r := by rw [if_pos rfl] at H; exact H
              clear H
              have H := H1
              clear H1
              as_aux_lemma =>
                have H' := Aside0.mk H
                clear H
                go_wp2
                go_meet
                case rel => exact ⟨_, (wrap64 (0 + 1)), (by first | rfl | (simp only [bytesLe_not]; done) | (exact congrArg _ (w64_in (by decide) (by decide)).symm) | (simp; done) | (simp [*]; done)), H', ⟨by have := HJ4.out; first | omega | exact Nat.le_refl _⟩, ⟨by (try simp only [hl3_4]); (with_reducible repeat (first | apply Kd.R_alloc | apply Kd.R_drewN | apply Kd.R_drew)); exact HO_3.out⟩, ⟨by repeat (first | (with_reducible first | exact HB.out | apply below_alloc | apply pw_below_drewN | apply below_drew1) | exact HB.out)⟩⟩
            · replace c13 := Bool.eq_false_iff.mpr c13
              subst c13
              have H1 : (semver_zzLoose.j1 kj4 a0 y196 0) = some r := by rw [if_neg (show ¬ (false = true) by decide)] at H; exact H
              clear H
              have H := H1
              clear H1
              as_aux_lemma =>
                have H' := Aside0.mk H
                clear H
                go_wp2
                go_meet
                case rel => exact ⟨_, (0), (by first | rfl | (simp only [bytesLe_not]; done) | (exact congrArg _ (w64_in (by decide) (by decide)).symm) | (simp; done) | (simp [*]; done)), H', ⟨by have := HJ4.out; first | omega | exact Nat.le_refl _⟩, ⟨by (try simp only [hl3_4]); (with_reducible repeat (first | apply Kd.R_alloc | apply Kd.R_drewN | apply Kd.R_drew)); exact HO_3.out⟩, ⟨by repeat (first | (with_reducible first | exact HB.out | apply below_alloc | apply pw_below_drewN | apply below_drew1) | exact HB.out)⟩⟩
          case rest =>
            clear HC12
            try clear c1
            try clear p1
            try clear q1
            try clear hx1
            try clear qi1
            try clear c2
            try clear c2b0
            try clear c2b1
            try clear p2
            try clear c3
            try clear c3b0
            try clear c3b1
            try clear p4
            try clear q4
            try clear hx4
            try clear qi4
            try clear hf4
            try clear p6
            try clear c10
            try clear c10b0
            try clear c10b1
            try clear p11
            try clear q11
            try clear hx11
            try clear qi11
            try clear c13
            try clear hx4_0
            try clear p1
            try clear p11
            try clear p2
            try clear p4
            try clear q1
            try clear q11
            try clear q4
            obtain ⟨kq, x4_11, rfl, HA, HJ11, HO_3, HB⟩ := hcut
            cases kq with
            | zero => exact absurd HA.out (by simp [semver_zzLoose.j1])
            | succ kj11 =>
              have H := HA.out
              clear HA
              simp only [semver_zzLoose.j1] at H
              replace H := Option.bind_eq_some_iff.mp H
              obtain ⟨t197, A140, H⟩ := H
              replace H : (if t197 = x4_11 then (some ([] : List ByteArray)) else (if 0 ≤ x4_11 then (if x4_11 ≤ t197 then (if t197 ≤ (a0.size : Int) then (if 1 < (y196.length : Int) then (semver_zzLoose.l0 kj11 a0 (y196.set (1 : Int).toNat (a0.extract (x4_11 : Int).toNat (t197 : Int).toNat)) t197 2) else (none)) else (none)) else (none)) else (none))) = some r := H
              have A14 := Aside0.mk A140
              clear A140
              by_cases c15 : t197 = x4_11
              · rw [if_pos c15] at H
                have c15b0 : (t197 == x4_11) = true := beq_iff_eq.mpr c15
                have c15b1 : (t197 != x4_11) = false := bne_eq_false_iff_eq.mpr c15
                clear c15
                as_aux_lemma =>
                  obtain rfl := Option.some.inj H
                  go_wp2_with (first | ((with_reducible refine gate_callee (f := 50) rfl ?_); refine goesL_ (some 25) rfl rfl Tryz.func50 (by kernel_rfl) rfl #[.string a0, .int .i64 x4_11] rfl (by (try simp only [List.map_toArray, List.map_cons, List.map_nil]); first | done | rfl | (simp only [List.length_drop, List.length_take]; rfl)) ?_; (with_reducible refine (semver_zzDigits.calls kj11 a0 x4_11 t197 _ A14.out).mono ?_); rintro e w' ⟨rfl, ⟨nd, rfl⟩⟩; refine ⟨_, rfl, ?_⟩))
                  go_ret
                  exact ⟨_, by first | rfl | (simp [errW_none, errW_some] <;> rfl) | (simp [*, errW_none, errW_some] <;> rfl), by first | exact Kd.R_nil _ _ _ _ _ | exact Kd.N_nil _ _ _ _ _ | exact Kd.V_nil _ _ _ _ _ | exact Kd.Q_nil _ _ _ _ _ | exact Kd.S_nil _ _ _ _ _, by repeat (first | (with_reducible first | exact HB.out | apply below_alloc | apply pw_below_drewN | apply below_drew1) | exact HB.out)⟩
              · rw [if_neg c15] at H
                have c15b0 : (t197 == x4_11) = false := beq_eq_false_iff_ne.mpr c15
                have c15b1 : (t197 != x4_11) = true := bne_iff_ne.mpr c15
                by_cases c16 : 0 ≤ x4_11
                · rw [if_pos c16] at H
                  have c16b0 := eq_true c16
                  have c16b1 : decide (0 ≤ x4_11) = true := decide_eq_true c16
                  clear c16
                  by_cases c17 : x4_11 ≤ t197
                  · rw [if_pos c17] at H
                    have c17b0 := eq_true c17
                    have c17b1 : decide (x4_11 ≤ t197) = true := decide_eq_true c17
                    clear c17
                    by_cases c18 : t197 ≤ (a0.size : Int)
                    · rw [if_pos c18] at H
                      have c18b0 := eq_true c18
                      have c18b1 : decide (t197 ≤ (a0.size : Int)) = true := decide_eq_true c18
                      clear c18
                      by_cases c19 : 1 < (y196.length : Int)
                      · rw [if_pos c19] at H
                        have c19b0 : decide (1 < (y196.length : Int)) = true := decide_eq_true c19
                        have c19b1 : decide (1 < y196.length) = true := decide_eq_true (by omega)
                        clear c19
                        obtain ⟨y198, hy198⟩ : ∃ y_ : List ByteArray, y_ = (y196.set (1 : Int).toNat (a0.extract (x4_11 : Int).toNat (t197 : Int).toNat)) := ⟨_, rfl⟩
                        replace H : (semver_zzLoose.l0 kj11 a0 y198 t197 2) = some r := by first | (rw [hy198]; with_reducible exact H) | (have H2_ := (Option.bind_some _ _).symm.trans H; rw [hy198]; with_reducible exact H2_) | (have H2_ := (Option.bind_some _ _).symm.trans H; with_reducible exact H2_) | with_reducible exact H | (rw [hy198]; exact H) | exact H
                        have Ny198 := Aside0.mk hy198
                        clear hy198
                        have HC21 := Aside0.mk H
                        clear H
                        go_upto_block 0 with (first | ((with_reducible refine gate_callee (f := 50) rfl ?_); refine goesL_ (some 25) rfl rfl Tryz.func50 (by kernel_rfl) rfl #[.string a0, .int .i64 x4_11] rfl (by (try simp only [List.map_toArray, List.map_cons, List.map_nil]); first | done | rfl | (simp only [List.length_drop, List.length_take]; rfl)) ?_; (with_reducible refine (semver_zzDigits.calls kj11 a0 x4_11 t197 _ A14.out).mono ?_); rintro e w' ⟨rfl, ⟨nd, rfl⟩⟩; refine ⟨_, rfl, ?_⟩; (try (rw [drewN_self wc]; generalize hq_ : World.drewN wc _ = wc; have n0_ : Aside0 (Kd.R Kd.string 9 wc w.heap.size (fun _ => True) (.slice (some ⟨go4, 0, none⟩) y196.length co4) y196) := ⟨by rw [← hq_]; exact (by (with_reducible repeat (first | apply Kd.R_alloc | apply Kd.R_drewN | apply Kd.R_drew)); exact HO_3.out)⟩; have n1_ : Aside0 (Below w.heap.size w wc) := ⟨by rw [← hq_]; exact (by repeat (first | (with_reducible first | exact HB.out | apply below_alloc | apply pw_below_drewN | apply below_drew1) | exact HB.out))⟩; clear HO_3 HB hq_; have HO_3 := n0_; have HB := n1_; clear n0_ n1_)); have p20 : 0 ≤ (1 : Int) := (by omega); have q20 : (1 : Int) < ((y196.length : Int) : Int) := of_decide_eq_true (by first | (with_reducible assumption) | assumption); have qi20 : (1 < y196.length) = True := eq_true (by omega); obtain ⟨hx20_0, hf20_0⟩ := Kd.R_celln (⟨#[]⟩ : ByteArray) HO_3.out (1 : Int) p20 q20; (try rw [show ((1 : Int)).toNat = 1 from rfl] at hx20_0); (try simp only [Nat.reduceMul, Nat.zero_mul, Nat.zero_add, Nat.reduceAdd] at hx20_0); (try rw [show ((1 : Int)).toNat = 1 from rfl] at hf20_0); (try simp only [Nat.reduceMul, Nat.zero_mul, Nat.zero_add, Nat.reduceAdd] at hf20_0); replace p20 := eq_true p20; replace q20 := eq_true q20; obtain ⟨hy22_, hz22_⟩ := Kd.R_celln (⟨#[]⟩ : ByteArray) HO_3.out (1 : Int) (by omega) (of_decide_eq_true (by first | (with_reducible assumption) | assumption)); (try simp only [Int.reduceToNat, Int.toNat_zero, Int.toNat_ofNat, Nat.reduceMul, Nat.zero_mul, Nat.zero_add] at hy22_ hz22_); (try rw [show ((1 : Int)).toNat = 1 from rfl] at hy22_); (try rw [show ((1 : Int)).toNat = 1 from rfl] at hz22_); have HP22 := Kd.R_putg HO_3.out (1 : Int) (a0.extract (x4_11 : Int).toNat (t197 : Int).toNat)) | ((with_reducible refine gate_store (t := 9) (p := 35) rfl ?_); refine store_event (t := 9) (p := 35) (v := ?vo_w23) (w1 := (wc.setCell ⟨go4, (1 : Int).toNat, none⟩ (.string (a0.extract (x4_11 : Int).toNat (t197 : Int).toNat)))) ?hg ?ho ?hn ?hr ?_; (case ho => rfl); (case hg => rfl); (case hn => rfl); (case hr => first | (go_simp; done) | (go_simp; rfl)); intro w23 hw; have hg : wc.grownBy w23 (some go4) := (by rw [hw]; exact HP22.2); have hp_ : Kd.R Kd.string 9 w23 w.heap.size (fun _ => True) (.slice (some ⟨go4, 0, none⟩) y196.length co4) y198 := (by rw [hw, Ny198.out]; exact HP22.1); clear HP22; have n0_ := Aside0.mk (hp_); have n1_ := Aside0.mk ((by rw [hw]; exact below_set (HB.out) GB4.out : Below w.heap.size w w23)); clear HO_3; clear HB; have HO_3 := n0_; have HB := n1_; clear n0_ n1_; clear hg hw hp_))
                        (try simp only [Act.put, List.setIfInBounds_toArray, List.set_cons_zero, List.set_cons_succ])
                        go_cut [4] (fun v4 wc => ∃ (kq : Nat) (x3_20 : List ByteArray) (x4_20 : Int), v4 = .int .i64 x4_20 ∧ Aside0 (semver_zzLoose.j4 kq a0 x3_20 x4_20 = some r) ∧ Aside0 (kq ≤ kj11) ∧ Aside0 (Kd.R Kd.string 9 wc w.heap.size (fun _ => True) (.slice (some ⟨go4, 0, none⟩) y196.length co4) x3_20) ∧ Aside0 (Below w.heap.size w wc))
                        case first =>
                          have H := HC21.out
                          clear HC21
                          have H' := Aside0.mk H
                          clear H
                          go_wp2
                          go_loopg [4, 6] kj11 (fun kq v4 v6 w' => ∃ (x3_3 : List ByteArray) (x4_3 : Int) (x6_3 : Int), v4 = .int .i64 x4_3 ∧ v6 = .int .i64 x6_3 ∧ Aside0 (semver_zzLoose.l0 kq a0 x3_3 x4_3 x6_3 = some r) ∧ Aside0 (kq ≤ kj11) ∧ Aside0 (Kd.R Kd.string 9 w' w.heap.size (fun _ => True) (.slice (some ⟨go4, 0, none⟩) y196.length co4) x3_3) ∧ Aside0 (Below w.heap.size w w'))
                          case atStart => exact ⟨(y198), (t197), (2), (by first | rfl | (simp only [bytesLe_not]; done) | (simp; done) | (simp [*]; done)), (by first | rfl | (simp only [bytesLe_not]; done) | (simp; done) | (simp [*]; done)), H', ⟨Nat.le_refl _⟩, ⟨by (try simp only [hl3_4]); (with_reducible repeat (first | apply Kd.R_alloc | apply Kd.R_drewN | apply Kd.R_drew)); exact HO_3.out⟩, ⟨by repeat (first | (with_reducible first | exact HB.out | apply below_alloc | apply pw_below_drewN | apply below_drew1) | exact HB.out)⟩⟩
                          case round =>
                            clear H'
                            try clear c1
                            try clear p1
                            try clear q1
                            try clear hx1
                            try clear qi1
                            try clear c2
                            try clear c2b0
                            try clear c2b1
                            try clear p2
                            try clear q2
                            try clear hx2
                            try clear qi2
                            try clear hf2
                            try clear c3
                            try clear c3b0
                            try clear c3b1
                            try clear p4
                            try clear q4
                            try clear hx4
                            try clear qi4
                            try clear hf4
                            try clear c5
                            try clear p6
                            try clear c10
                            try clear c10b0
                            try clear c10b1
                            try clear p11
                            try clear q11
                            try clear hx11
                            try clear qi11
                            try clear c13
                            try clear c15
                            try clear c15b0
                            try clear c15b1
                            try clear c16
                            try clear c16b0
                            try clear c16b1
                            try clear c17
                            try clear c17b0
                            try clear c17b1
                            try clear c18
                            try clear c18b0
                            try clear c18b1
                            try clear c19
                            try clear c19b0
                            try clear c19b1
                            try clear p20
                            try clear q20
                            try clear hx20
                            try clear qi20
                            try clear hf20
                            try clear hx20_0
                            try clear hx4_0
                            try clear p1
                            try clear p11
                            try clear p2
                            try clear p20
                            try clear p4
                            try clear p6
                            try clear q1
                            try clear q11
                            try clear q20
                            try clear q4
                            obtain ⟨x3_3, x4_3, x6_3, rfl, rfl, HA, HK3, HO_3, HB⟩ := hrel
                            have hl3_3 := (Kd.R_reads' HO_3.out).1
                            rw [hl3_3] at HO_3
                            (try simp only [hl3_3])
                            cases gk with
                            | zero => exact absurd HA.out (by simp [semver_zzLoose.l0])
                            | succ k3 =>
                              have H := HA.out
                              clear HA
                              simp only [semver_zzLoose.l0] at H
                              by_cases c24 : x6_3 ≤ 3
                              · rw [if_pos c24] at H
                                have c24b0 : decide (x6_3 ≤ 3) = true := decide_eq_true c24
                                clear c24
                                (first | rw [c24b0] | (simp only [i64_w, i32_w]; rw [c24b0]) | skip)
                                have HC25 := Aside0.mk H
                                clear H
                                go_upto_region 13 with (fail)
                                go_cut [58] (fun v58 wc => ∃ (kq : Nat) (x58_24 : Bool), v58 = .bool x58_24 ∧ Aside0 (semver_zzLoose.j3 kq a0 x3_3 x4_3 x6_3 x58_24 = some r) ∧ Aside0 (kq ≤ k3) ∧ Aside0 (Kd.R Kd.string 9 wc w.heap.size (fun _ => True) (.slice (some ⟨go4, 0, none⟩) x3_3.length co4) x3_3) ∧ Aside0 (Below w.heap.size w wc))
                                case first =>
                                  have H := HC25.out
                                  clear HC25
                                  by_cases c26 : x4_3 < (a0.size : Int)
                                  · rw [if_pos c26] at H
                                    have c26b0 : decide (x4_3 < (a0.size : Int)) = true := decide_eq_true c26
                                    clear c26
                                    (first | rw [c26b0] | (simp only [i64_w, i32_w]; rw [c26b0]) | skip)
                                    by_cases c27 : 0 ≤ x4_3
                                    · rw [if_pos c27] at H
                                      have c27b0 : decide (0 ≤ x4_3) = true := decide_eq_true c27
                                      clear c27
                                      by_cases c29 : (bt a0 x4_3) = 46
                                      · rw [if_pos c29] at H
                                        have c29b0 : ((bt a0 x4_3) == 46) = true := beq_iff_eq.mpr c29
                                        have c29b1 : ((bt a0 x4_3) != 46) = false := bne_eq_false_iff_eq.mpr c29
                                        clear c29
                                        replace H := Option.bind_eq_some_iff.mp H
                                        obtain ⟨t199, A300, H⟩ := H
                                        replace H : (semver_zzLoose.j3 k3 a0 x3_3 x4_3 x6_3 (decide (t199 > (wrap64 (x4_3 + 1))))) = some r := H
                                        have A30 := Aside0.mk A300
                                        clear A300
                                        as_aux_lemma =>
                                          have H' := Aside0.mk H
                                          clear H
                                          have p28 : 0 ≤ (x4_3 : Int) := of_decide_eq_true (by first | (with_reducible assumption) | assumption)
                                          have q28 : x4_3 < (a0.size : Int) := of_decide_eq_true (by first | (with_reducible assumption) | assumption)
                                          have hx28 := bt_at a0 x4_3
                                          replace p28 := eq_true p28
                                          replace q28 := eq_true q28
                                          go_wp2_with (first | (go_at_call 50; (with_reducible refine (semver_zzDigits.calls k3 a0 (wrap64 (x4_3 + 1)) t199 _ A30.out).mono ?_); rintro e w' ⟨rfl, ⟨nd, rfl⟩⟩))
                                          go_meet
                                          case rel => exact ⟨_, (decide (t199 > (wrap64 (x4_3 + 1)))), (by first | rfl | (simp only [bytesLe_not]; done) | (simp; done) | (simp [*]; done)), H', ⟨by have := HJ4.out; have := HJ11.out; have := HK3.out; first | omega | exact Nat.le_refl _⟩, ⟨by (try simp only [hl3_4]); (try simp only [hl3_3]); (with_reducible repeat (first | apply Kd.R_alloc | apply Kd.R_drewN | apply Kd.R_drew)); exact HO_3.out⟩, ⟨by repeat (first | (with_reducible first | exact HB.out | apply below_alloc | apply pw_below_drewN | apply below_drew1) | exact HB.out)⟩⟩
                                      · rw [if_neg c29] at H
                                        have c29b0 : ((bt a0 x4_3) == 46) = false := beq_eq_false_iff_ne.mpr c29
                                        have c29b1 : ((bt a0 x4_3) != 46) = true := bne_iff_ne.mpr c29
                                        as_aux_lemma =>
                                          have H' := Aside0.mk H
                                          clear H
                                          have p28 : 0 ≤ (x4_3 : Int) := of_decide_eq_true (by first | (with_reducible assumption) | assumption)
                                          have q28 : x4_3 < (a0.size : Int) := of_decide_eq_true (by first | (with_reducible assumption) | assumption)
                                          have hx28 := bt_at a0 x4_3
                                          replace p28 := eq_true p28
                                          replace q28 := eq_true q28
                                          go_wp2
                                          go_meet
                                          case rel => exact ⟨_, (false), (by first | rfl | (simp only [bytesLe_not]; done) | (simp; done) | (simp [*]; done)), H', ⟨by have := HJ4.out; have := HJ11.out; have := HK3.out; first | omega | exact Nat.le_refl _⟩, ⟨by (try simp only [hl3_4]); (try simp only [hl3_3]); (with_reducible repeat (first | apply Kd.R_alloc | apply Kd.R_drewN | apply Kd.R_drew)); exact HO_3.out⟩, ⟨by repeat (first | (with_reducible first | exact HB.out | apply below_alloc | apply pw_below_drewN | apply below_drew1) | exact HB.out)⟩⟩
                                    · rw [if_neg c27] at H
                                      exact absurd H (by simp)
                                  · rw [if_neg c26] at H
                                    have c26b0 : decide (x4_3 < (a0.size : Int)) = false := decide_eq_false c26
                                    clear c26
                                    (first | rw [c26b0] | (simp only [i64_w, i32_w]; rw [c26b0]) | skip)
                                    as_aux_lemma =>
                                      have H' := Aside0.mk H
                                      clear H
                                      go_wp2
                                      go_meet
                                      case rel => exact ⟨_, (false), (by first | rfl | (simp only [bytesLe_not]; done) | (simp; done) | (simp [*]; done)), H', ⟨by have := HJ4.out; have := HJ11.out; have := HK3.out; first | omega | exact Nat.le_refl _⟩, ⟨by (try simp only [hl3_4]); (try simp only [hl3_3]); (with_reducible repeat (first | apply Kd.R_alloc | apply Kd.R_drewN | apply Kd.R_drew)); exact HO_3.out⟩, ⟨by repeat (first | (with_reducible first | exact HB.out | apply below_alloc | apply pw_below_drewN | apply below_drew1) | exact HB.out)⟩⟩
                                case rest =>
                                  clear HC25
                                  try clear c1
                                  try clear p1
                                  try clear q1
                                  try clear hx1
                                  try clear qi1
                                  try clear c2
                                  try clear c2b0
                                  try clear c2b1
                                  try clear p2
                                  try clear q2
                                  try clear hx2
                                  try clear qi2
                                  try clear hf2
                                  try clear c3
                                  try clear c3b0
                                  try clear c3b1
                                  try clear p4
                                  try clear q4
                                  try clear hx4
                                  try clear qi4
                                  try clear hf4
                                  try clear c5
                                  try clear p6
                                  try clear c10
                                  try clear c10b0
                                  try clear c10b1
                                  try clear p11
                                  try clear q11
                                  try clear hx11
                                  try clear qi11
                                  try clear c13
                                  try clear c15
                                  try clear c15b0
                                  try clear c15b1
                                  try clear c16
                                  try clear c16b0
                                  try clear c16b1
                                  try clear c17
                                  try clear c17b0
                                  try clear c17b1
                                  try clear c18
                                  try clear c18b0
                                  try clear c18b1
                                  try clear c19
                                  try clear c19b0
                                  try clear c19b1
                                  try clear p20
                                  try clear q20
                                  try clear hx20
                                  try clear qi20
                                  try clear hf20
                                  try clear c24
                                  try clear c24b0
                                  try clear c26
                                  try clear c26b0
                                  try clear c27
                                  try clear c27b0
                                  try clear p28
                                  try clear q28
                                  try clear hx28
                                  try clear c29
                                  try clear c29b0
                                  try clear c29b1
                                  try clear hx20_0
                                  try clear hx4_0
                                  try clear p1
                                  try clear p11
                                  try clear p2
                                  try clear p20
                                  try clear p28
                                  try clear p4
                                  try clear p6
                                  try clear q1
                                  try clear q11
                                  try clear q2
                                  try clear q20
                                  try clear q28
                                  try clear q4
                                  obtain ⟨kq, x58_24, rfl, HA, HJ24, HO_3, HB⟩ := hcut
                                  cases kq with
                                  | zero => exact absurd HA.out (by simp [semver_zzLoose.j3])
                                  | succ kj24 =>
                                    have H := HA.out
                                    clear HA
                                    simp only [semver_zzLoose.j3] at H
                                    by_cases c31 : x58_24 = true
                                    · subst c31
                                      have H1 : ((semver_zzDigits.f kj24 a0 (wrap64 (x4_3 + 1))).bind fun t200 => (if 0 ≤ x4_3 then (if x4_3 ≤ t200 then (if t200 ≤ (a0.size : Int) then (if 0 ≤ x6_3 then (if x6_3 < (x3_3.length : Int) then (semver_zzLoose.l0 kj24 a0 (x3_3.set (x6_3 : Int).toNat (a0.extract (x4_3 : Int).toNat (t200 : Int).toNat)) t200 (wrap64 (x6_3 + 1))) else (none)) else (none)) else (none)) else (none)) else (none))) = some r := by rw [if_pos rfl] at H; exact H
                                      clear H
                                      have H := H1
                                      clear H1
                                      replace H := Option.bind_eq_some_iff.mp H
                                      obtain ⟨t200, A320, H⟩ := H
                                      replace H : (if 0 ≤ x4_3 then (if x4_3 ≤ t200 then (if t200 ≤ (a0.size : Int) then (if 0 ≤ x6_3 then (if x6_3 < (x3_3.length : Int) then (semver_zzLoose.l0 kj24 a0 (x3_3.set (x6_3 : Int).toNat (a0.extract (x4_3 : Int).toNat (t200 : Int).toNat)) t200 (wrap64 (x6_3 + 1))) else (none)) else (none)) else (none)) else (none)) else (none)) = some r := H
                                      have A32 := Aside0.mk A320
                                      clear A320
                                      by_cases c33 : 0 ≤ x4_3
                                      · rw [if_pos c33] at H
                                        have c33b0 := eq_true c33
                                        have c33b1 : decide (0 ≤ x4_3) = true := decide_eq_true c33
                                        clear c33
                                        by_cases c34 : x4_3 ≤ t200
                                        · rw [if_pos c34] at H
                                          have c34b0 := eq_true c34
                                          have c34b1 : decide (x4_3 ≤ t200) = true := decide_eq_true c34
                                          clear c34
                                          by_cases c35 : t200 ≤ (a0.size : Int)
                                          · rw [if_pos c35] at H
                                            have c35b0 := eq_true c35
                                            have c35b1 : decide (t200 ≤ (a0.size : Int)) = true := decide_eq_true c35
                                            clear c35
                                            by_cases c36 : 0 ≤ x6_3
                                            · rw [if_pos c36] at H
                                              have c36b0 : decide (0 ≤ x6_3) = true := decide_eq_true c36
                                              clear c36
                                              by_cases c37 : x6_3 < (x3_3.length : Int)
                                              · rw [if_pos c37] at H
                                                have c37b0 : decide (x6_3 < (x3_3.length : Int)) = true := decide_eq_true c37
                                                clear c37
                                                obtain ⟨y201, hy201⟩ : ∃ y_ : List ByteArray, y_ = (x3_3.set (x6_3 : Int).toNat (a0.extract (x4_3 : Int).toNat (t200 : Int).toNat)) := ⟨_, rfl⟩
                                                replace H : (semver_zzLoose.l0 kj24 a0 y201 t200 (wrap64 (x6_3 + 1))) = some r := by first | (rw [hy201]; with_reducible exact H) | (have H2_ := (Option.bind_some _ _).symm.trans H; rw [hy201]; with_reducible exact H2_) | (have H2_ := (Option.bind_some _ _).symm.trans H; with_reducible exact H2_) | with_reducible exact H | (rw [hy201]; exact H) | exact H
                                                have Ny201 := Aside0.mk hy201
                                                clear hy201
                                                as_aux_lemma =>
                                                  have H' := Aside0.mk H
                                                  clear H
                                                  go_wp2_with (first | ((with_reducible refine gate_callee (f := 50) rfl ?_); refine goesL_ (some 62) rfl rfl Tryz.func50 (by kernel_rfl) rfl #[.string a0, .int .i64 (wrap64 (x4_3 + 1))] rfl (by (try simp only [List.map_toArray, List.map_cons, List.map_nil]); first | done | rfl | (simp only [List.length_drop, List.length_take]; rfl)) ?_; (with_reducible refine (semver_zzDigits.calls kj24 a0 (wrap64 (x4_3 + 1)) t200 _ A32.out).mono ?_); rintro e w' ⟨rfl, ⟨nd, rfl⟩⟩; refine ⟨_, rfl, ?_⟩; (try (rw [drewN_self wc]; generalize hq_ : World.drewN wc _ = wc; have n0_ : Aside0 (Kd.R Kd.string 9 wc w.heap.size (fun _ => True) (.slice (some ⟨go4, 0, none⟩) x3_3.length co4) x3_3) := ⟨by rw [← hq_]; exact (by (with_reducible repeat (first | apply Kd.R_alloc | apply Kd.R_drewN | apply Kd.R_drew)); exact HO_3.out)⟩; have n1_ : Aside0 (Below w.heap.size w wc) := ⟨by rw [← hq_]; exact (by repeat (first | (with_reducible first | exact HB.out | apply below_alloc | apply pw_below_drewN | apply below_drew1) | exact HB.out))⟩; clear HO_3 HB hq_; have HO_3 := n0_; have HB := n1_; clear n0_ n1_)); have p38 : 0 ≤ (x6_3 : Int) := of_decide_eq_true (by first | (with_reducible assumption) | assumption); have q38 : (x6_3 : Int) < ((x3_3.length : Int) : Int) := of_decide_eq_true (by first | (with_reducible assumption) | assumption); obtain ⟨hx38_0, hf38_0⟩ := Kd.R_celln (⟨#[]⟩ : ByteArray) HO_3.out (x6_3 : Int) p38 q38; replace p38 := eq_true p38; replace q38 := eq_true q38; obtain ⟨hy39_, hz39_⟩ := Kd.R_celln (⟨#[]⟩ : ByteArray) HO_3.out (x6_3 : Int) (of_decide_eq_true (by first | (with_reducible assumption) | assumption)) (of_decide_eq_true (by first | (with_reducible assumption) | assumption)); have HP39 := Kd.R_putg HO_3.out (x6_3 : Int) (a0.extract (x4_3 : Int).toNat (t200 : Int).toNat)) | ((with_reducible refine gate_store (t := 9) (p := 70) rfl ?_); refine store_event (t := 9) (p := 70) (v := ?vo_w40) (w1 := (wc.setCell ⟨go4, (x6_3 : Int).toNat, none⟩ (.string (a0.extract (x4_3 : Int).toNat (t200 : Int).toNat)))) ?hg ?ho ?hn ?hr ?_; (case ho => rfl); (case hg => rfl); (case hn => rfl); (case hr => first | (go_simp; done) | (go_simp; rfl)); intro w40 hw; have hg : wc.grownBy w40 (some go4) := (by rw [hw]; exact HP39.2); have hp_ : Kd.R Kd.string 9 w40 w.heap.size (fun _ => True) (.slice (some ⟨go4, 0, none⟩) x3_3.length co4) y201 := (by rw [hw, Ny201.out]; exact HP39.1); clear HP39; have n0_ := Aside0.mk (hp_); have n1_ := Aside0.mk ((by rw [hw]; exact below_set (HB.out) GB4.out : Below w.heap.size w w40)); clear HO_3; clear HB; have HO_3 := n0_; have HB := n1_; clear n0_ n1_; clear hg hw hp_))
                                                  (try simp only [← hl3_3])
                                                  go_roundg kj24
                                                  case measure => have := HJ4.out; have := HJ11.out; have := HK3.out; have := HJ24.out; omega
                                                  case rel => exact ⟨(y201), (t200), (wrap64 (x6_3 + 1)), (by first | rfl | (simp only [bytesLe_not]; done) | (simp; done) | (simp [*]; done)), (by first | rfl | (simp only [bytesLe_not]; done) | (simp; done) | (simp [*]; done)), H', ⟨by have := HJ4.out; have := HJ11.out; have := HK3.out; have := HJ24.out; omega⟩, ⟨by (try simp only [hl3_4]); (try simp only [hl3_3]); (with_reducible repeat (first | apply Kd.R_alloc | apply Kd.R_drewN | apply Kd.R_drew)); exact HO_3.out⟩, ⟨by repeat (first | (with_reducible first | exact HB.out | apply below_alloc | apply pw_below_drewN | apply below_drew1) | exact HB.out)⟩⟩
                                              · rw [if_neg c37] at H
                                                exact absurd H (by simp)
                                            · rw [if_neg c36] at H
                                              exact absurd H (by simp)
                                          · rw [if_neg c35] at H
                                            exact absurd H (by simp)
                                        · rw [if_neg c34] at H
                                          exact absurd H (by simp)
                                      · rw [if_neg c33] at H
                                        exact absurd H (by simp)
                                    · replace c31 := Bool.eq_false_iff.mpr c31
                                      subst c31
                                      have H1 : (semver_zzLoose.j4 kj24 a0 x3_3 x4_3) = some r := by rw [if_neg (show ¬ (false = true) by decide)] at H; exact H
                                      clear H
                                      have H := H1
                                      clear H1
                                      as_aux_lemma =>
                                        have H' := Aside0.mk H
                                        clear H
                                        go_wp2
                                        (try simp only [← hl3_3])
                                        go_meet
                                        case rel => exact ⟨_, (x3_3), (x4_3), (by first | rfl | (simp only [bytesLe_not]; done) | (simp; done) | (simp [*]; done)), H', ⟨by have := HJ4.out; have := HJ11.out; have := HK3.out; have := HJ24.out; first | omega | exact Nat.le_refl _⟩, ⟨by (try simp only [hl3_4]); (try simp only [hl3_3]); (with_reducible repeat (first | apply Kd.R_alloc | apply Kd.R_drewN | apply Kd.R_drew)); exact HO_3.out⟩, ⟨by repeat (first | (with_reducible first | exact HB.out | apply below_alloc | apply pw_below_drewN | apply below_drew1) | exact HB.out)⟩⟩
                              · rw [if_neg c24] at H
                                have c24b0 : decide (x6_3 ≤ 3) = false := decide_eq_false c24
                                clear c24
                                (first | rw [c24b0] | (simp only [i64_w, i32_w]; rw [c24b0]) | skip)
                                as_aux_lemma =>
                                  have H' := Aside0.mk H
                                  clear H
                                  go_wp2
                                  (try simp only [← hl3_3])
                                  go_meet
                                  case rel => exact ⟨_, (x3_3), (x4_3), (by first | rfl | (simp only [bytesLe_not]; done) | (simp; done) | (simp [*]; done)), H', ⟨by have := HJ4.out; have := HJ11.out; have := HK3.out; first | omega | exact Nat.le_refl _⟩, ⟨by (try simp only [hl3_4]); (try simp only [hl3_3]); (with_reducible repeat (first | apply Kd.R_alloc | apply Kd.R_drewN | apply Kd.R_drew)); exact HO_3.out⟩, ⟨by repeat (first | (with_reducible first | exact HB.out | apply below_alloc | apply pw_below_drewN | apply below_drew1) | exact HB.out)⟩⟩
                        case rest =>
                          clear HC21
                          try clear c1
                          try clear p1
                          try clear q1
                          try clear hx1
                          try clear qi1
                          try clear c2
                          try clear c2b0
                          try clear c2b1
                          try clear p2
                          try clear q2
                          try clear hx2
                          try clear qi2
                          try clear hf2
                          try clear c3
                          try clear c3b0
                          try clear c3b1
                          try clear p3
                          try clear q3
                          try clear hx3
                          try clear hf3
                          try clear p4
                          try clear q4
                          try clear hx4
                          try clear qi4
                          try clear hf4
                          try clear c5
                          try clear p6
                          try clear c10
                          try clear c10b0
                          try clear c10b1
                          try clear p11
                          try clear q11
                          try clear hx11
                          try clear qi11
                          try clear c13
                          try clear c15
                          try clear c15b0
                          try clear c15b1
                          try clear c16
                          try clear c16b0
                          try clear c16b1
                          try clear c17
                          try clear c17b0
                          try clear c17b1
                          try clear c18
                          try clear c18b0
                          try clear c18b1
                          try clear c19
                          try clear c19b0
                          try clear c19b1
                          try clear p20
                          try clear q20
                          try clear hx20
                          try clear qi20
                          try clear hf20
                          try clear c24
                          try clear c24b0
                          try clear c26
                          try clear c26b0
                          try clear c27
                          try clear c27b0
                          try clear p28
                          try clear q28
                          try clear hx28
                          try clear c29
                          try clear c29b0
                          try clear c29b1
                          try clear c31
                          try clear c33
                          try clear c33b0
                          try clear c33b1
                          try clear c34
                          try clear c34b0
                          try clear c34b1
                          try clear c35
                          try clear c35b0
                          try clear c35b1
                          try clear c36
                          try clear c36b0
                          try clear c37
                          try clear c37b0
                          try clear c38
                          try clear p38
                          try clear q38
                          try clear hx38
                          try clear hf38
                          try clear hx20_0
                          try clear hx38_0
                          try clear hx4_0
                          try clear p1
                          try clear p11
                          try clear p2
                          try clear p20
                          try clear p28
                          try clear p38
                          try clear p4
                          try clear p6
                          try clear q1
                          try clear q11
                          try clear q2
                          try clear q20
                          try clear q28
                          try clear q38
                          try clear q4
                          obtain ⟨kq, x3_20, x4_20, rfl, HA, HJ20, HO_3, HB⟩ := hcut
                          have hl3_20 := (Kd.R_reads' HO_3.out).1
                          rw [hl3_20] at HO_3
                          (try simp only [hl3_20])
                          cases kq with
                          | zero => exact absurd HA.out (by simp [semver_zzLoose.j4])
                          | succ kj20 =>
                            have H := HA.out
                            clear HA
                            simp only [semver_zzLoose.j4] at H
                            replace H := Option.bind_eq_some_iff.mp H
                            obtain ⟨t202, A410, H⟩ := H
                            replace H : (if t202 > x4_20 then (if 0 ≤ x4_20 then (if x4_20 ≤ t202 then (if t202 ≤ (a0.size : Int) then (if 0 ≤ (wrap64 (x4_20 + 1)) then (if (wrap64 (x4_20 + 1)) ≤ t202 then (if 4 < (x3_20.length : Int) then (if 5 < (x3_20.length : Int) then (semver_zzLoose.j5 kj20 a0 ((x3_20.set (4 : Int).toNat (a0.extract (x4_20 : Int).toNat (t202 : Int).toNat)).set (5 : Int).toNat (a0.extract ((wrap64 (x4_20 + 1)) : Int).toNat (t202 : Int).toNat)) t202) else (none)) else (none)) else (none)) else (none)) else (none)) else (none)) else (none)) else (semver_zzLoose.j5 kj20 a0 x3_20 x4_20)) = some r := H
                            have A41 := Aside0.mk A410
                            clear A410
                            have HC42 := Aside0.mk H
                            clear H
                            go_upto_if 76 with (first | ((with_reducible refine gate_callee (f := 44) rfl ?_); refine goesL_ (some 73) rfl rfl Tryz.func44 (by kernel_rfl) rfl #[.string a0, .int .i64 x4_20, .int .u8 45] rfl (by (try simp only [List.map_toArray, List.map_cons, List.map_nil]); first | done | rfl | (simp only [List.length_drop, List.length_take]; rfl)) ?_; (with_reducible refine (semver_zzParts.calls kj20 a0 x4_20 45 t202 _ A41.out).mono ?_); rintro e w' ⟨rfl, ⟨nd, rfl⟩⟩; refine ⟨_, rfl, ?_⟩))
                            (try simp only [Act.put, List.setIfInBounds_toArray, List.set_cons_zero, List.set_cons_succ])
                            go_cut [4] (fun v4 wc => ∃ (kq : Nat) (x3_41 : List ByteArray) (x4_41 : Int), v4 = .int .i64 x4_41 ∧ Aside0 (semver_zzLoose.j5 kq a0 x3_41 x4_41 = some r) ∧ Aside0 (kq ≤ kj20) ∧ Aside0 (Kd.R Kd.string 9 wc w.heap.size (fun _ => True) (.slice (some ⟨go4, 0, none⟩) x3_20.length co4) x3_41) ∧ Aside0 (Below w.heap.size w wc))
                            case first =>
                              have H := HC42.out
                              clear HC42
                              by_cases c43 : t202 > x4_20
                              · rw [if_pos c43] at H
                                have c43b0 : decide (x4_20 < t202) = true := decide_eq_true c43
                                clear c43
                                (first | rw [c43b0] | (simp only [i64_w, i32_w]; rw [c43b0]) | skip)
                                by_cases c44 : 0 ≤ x4_20
                                · rw [if_pos c44] at H
                                  have c44b0 := eq_true c44
                                  have c44b1 : decide (0 ≤ x4_20) = true := decide_eq_true c44
                                  clear c44
                                  by_cases c45 : x4_20 ≤ t202
                                  · rw [if_pos c45] at H
                                    have c45b0 := eq_true c45
                                    have c45b1 : decide (x4_20 ≤ t202) = true := decide_eq_true c45
                                    clear c45
                                    by_cases c46 : t202 ≤ (a0.size : Int)
                                    · rw [if_pos c46] at H
                                      have c46b0 := eq_true c46
                                      have c46b1 : decide (t202 ≤ (a0.size : Int)) = true := decide_eq_true c46
                                      clear c46
                                      obtain ⟨ji47, hji47⟩ : ∃ j_ : Int, (wrap64 (x4_20 + 1)) = j_ := ⟨_, rfl⟩
                                      replace H : (if 0 ≤ (ji47) then (if (ji47) ≤ t202 then (if 4 < (x3_20.length : Int) then (if 5 < (x3_20.length : Int) then (semver_zzLoose.j5 kj20 a0 ((x3_20.set (4 : Int).toNat (a0.extract (x4_20 : Int).toNat (t202 : Int).toNat)).set (5 : Int).toNat (a0.extract ((ji47) : Int).toNat (t202 : Int).toNat)) t202) else (none)) else (none)) else (none)) else (none)) = some r := by first | (rw [hji47] at H; exact H) | (simp only [hji47] at H ⊢; exact H)
                                      have hji47w : (IntKind.i64.wrap (x4_20 + 1)) = ji47 := (i64_w _).trans hji47
                                      by_cases c48 : 0 ≤ (ji47)
                                      · rw [if_pos c48] at H
                                        have c48b0 := eq_true c48
                                        have c48b1 : decide (0 ≤ (ji47)) = true := decide_eq_true c48
                                        clear c48
                                        by_cases c49 : (ji47) ≤ t202
                                        · rw [if_pos c49] at H
                                          have c49b0 := eq_true c49
                                          have c49b1 : decide ((ji47) ≤ t202) = true := decide_eq_true c49
                                          clear c49
                                          have c50b0 := eq_true (of_decide_eq_true (by first | (with_reducible assumption) | assumption) : t202 ≤ (a0.size : Int))
                                          by_cases c51 : 4 < (x3_20.length : Int)
                                          · rw [if_pos c51] at H
                                            have c51b0 : decide (4 < (x3_20.length : Int)) = true := decide_eq_true c51
                                            have c51b1 : decide (4 < x3_20.length) = true := decide_eq_true (by omega)
                                            clear c51
                                            obtain ⟨y203, hy203⟩ : ∃ y_ : List ByteArray, y_ = (x3_20.set (4 : Int).toNat (a0.extract (x4_20 : Int).toNat (t202 : Int).toNat)) := ⟨_, rfl⟩
                                            replace H : (if 5 < (x3_20.length : Int) then (semver_zzLoose.j5 kj20 a0 (y203.set (5 : Int).toNat (a0.extract ((ji47) : Int).toNat (t202 : Int).toNat)) t202) else (none)) = some r := by first | (rw [hy203]; with_reducible exact H) | (have H2_ := (Option.bind_some _ _).symm.trans H; rw [hy203]; with_reducible exact H2_) | (have H2_ := (Option.bind_some _ _).symm.trans H; with_reducible exact H2_) | with_reducible exact H | (rw [hy203]; exact H) | exact H
                                            have Ny203 := Aside0.mk hy203
                                            clear hy203
                                            by_cases c53 : 5 < (x3_20.length : Int)
                                            · rw [if_pos c53] at H
                                              have c53b0 : decide (5 < (x3_20.length : Int)) = true := decide_eq_true c53
                                              have c53b1 : decide (5 < x3_20.length) = true := decide_eq_true (by omega)
                                              clear c53
                                              obtain ⟨y204, hy204⟩ : ∃ y_ : List ByteArray, y_ = (y203.set (5 : Int).toNat (a0.extract ((ji47) : Int).toNat (t202 : Int).toNat)) := ⟨_, rfl⟩
                                              replace H : (semver_zzLoose.j5 kj20 a0 y204 t202) = some r := by first | (rw [hy204]; with_reducible exact H) | (have H2_ := (Option.bind_some _ _).symm.trans H; rw [hy204]; with_reducible exact H2_) | (have H2_ := (Option.bind_some _ _).symm.trans H; with_reducible exact H2_) | with_reducible exact H | (rw [hy204]; exact H) | exact H
                                              have Ny204 := Aside0.mk hy204
                                              clear hy204
                                              as_aux_lemma =>
                                                have H' := Aside0.mk H
                                                clear H
                                                try go_wp2
                                                have HO_3d := Aside0.mk (Kd.R_drewN HO_3.out nd)
                                                have HBd := Aside0.mk (pw_below_drewN HB.out nd)
                                                clear HO_3 HB
                                                obtain ⟨wd, hwd⟩ : ∃ wd, wc.drewN nd = wd := ⟨_, rfl⟩
                                                rw [hwd] at HO_3d HBd ⊢
                                                have HO_3 := HO_3d
                                                have HB := HBd
                                                clear HO_3d HBd hwd
                                                have n0_ := Aside0.mk (Kd.R_drew HO_3.out)
                                                have n1_ := Aside0.mk (below_drew1 HB.out)
                                                clear HO_3
                                                clear HB
                                                have HO_3 := n0_
                                                have HB := n1_
                                                clear n0_ n1_
                                                have p52 : 0 ≤ (4 : Int) := (by omega)
                                                have q52 : (4 : Int) < ((x3_20.length : Int) : Int) := of_decide_eq_true (by first | (with_reducible assumption) | assumption)
                                                have qi52 : (4 < x3_20.length) = True := eq_true (by omega)
                                                obtain ⟨hx52_0, hf52_0⟩ := Kd.R_celln (⟨#[]⟩ : ByteArray) HO_3.out (4 : Int) p52 q52
                                                (try rw [show ((4 : Int)).toNat = 4 from rfl] at hx52_0)
                                                (try simp only [Nat.reduceMul, Nat.zero_mul, Nat.zero_add, Nat.reduceAdd] at hx52_0)
                                                (try rw [show ((4 : Int)).toNat = 4 from rfl] at hf52_0)
                                                (try simp only [Nat.reduceMul, Nat.zero_mul, Nat.zero_add, Nat.reduceAdd] at hf52_0)
                                                replace p52 := eq_true p52
                                                replace q52 := eq_true q52
                                                have HP56 := Kd.R_putn HO_3.out (4 : Int) (a0.extract (x4_20 : Int).toNat (t202 : Int).toNat)
                                                rw [← Ny203.out] at HP56
                                                have HQ56 := Aside0.mk HP56
                                                clear HP56
                                                have p54 : 0 ≤ (5 : Int) := (by omega)
                                                have q54 : (5 : Int) < ((x3_20.length : Int) : Int) := of_decide_eq_true (by first | (with_reducible assumption) | assumption)
                                                have qi54 : (5 < x3_20.length) = True := eq_true (by omega)
                                                obtain ⟨hx54_0, hf54_0⟩ := Kd.R_celln (⟨#[]⟩ : ByteArray) HQ56.out (5 : Int) p54 q54
                                                obtain ⟨hx54_b, hf54_b⟩ := Kd.R_celln (⟨#[]⟩ : ByteArray) HO_3.out (5 : Int) p54 q54
                                                (try rw [show ((5 : Int)).toNat = 5 from rfl] at hx54_b)
                                                (try simp only [Nat.reduceMul, Nat.zero_mul, Nat.zero_add, Nat.reduceAdd] at hx54_b)
                                                (try rw [show ((5 : Int)).toNat = 5 from rfl] at hf54_b)
                                                (try simp only [Nat.reduceMul, Nat.zero_mul, Nat.zero_add, Nat.reduceAdd] at hf54_b)
                                                (try rw [show ((5 : Int)).toNat = 5 from rfl] at hx54_0)
                                                (try simp only [Nat.reduceMul, Nat.zero_mul, Nat.zero_add, Nat.reduceAdd] at hx54_0)
                                                (try rw [show ((5 : Int)).toNat = 5 from rfl] at hf54_0)
                                                (try simp only [Nat.reduceMul, Nat.zero_mul, Nat.zero_add, Nat.reduceAdd] at hf54_0)
                                                replace p54 := eq_true p54
                                                replace q54 := eq_true q54
                                                have HP57 := Kd.R_putn HQ56.out (5 : Int) (a0.extract ((ji47) : Int).toNat (t202 : Int).toNat)
                                                rw [← Ny204.out] at HP57
                                                have HQ57 := Aside0.mk HP57
                                                clear HP57
                                                refine start_ (n := 17) (S := fun w' => True) (ds := [13, 15]) #[false, false, false, false, false, false, false, false, false, false, false, false, false, false, false, false, false] (by kernel_rfl) rfl rfl trivial (fun hHeld => ?_); refine with_tabW semver_zzLoose.tab18 semver_zzLoose.bits18 (fun HT_ HW_ => ?_)
                                                generalize wd.drew = w55 at HO_3 HB HQ56 HQ57 hf52_0 hf54_0 hx52_0 hx54_0 hx54_b hf54_b hHeld ⊢
                                                refine pure_ (i := 0) (N := some 77) (v := ?_) (a' := ?_) #[true, false, false, false, false, false, false, false, false, false, false, false, false, false, false, false, false] rfl rfl (any_of HT_.out (by kernel_rfl)) (fun _ _ _ h => h) (Or.inl ⟨by rfl, ?_⟩) ?_ ?_
                                                rotate_left
                                                · intro w'
                                                  go_simp
                                                  with_reducible rfl
                                                rotate_left
                                                · simp only [Act.put, List.setIfInBounds_toArray, List.set_cons_zero, List.set_cons_succ, i64_w, i32_w]
                                                  rfl
                                                refine pure_ (i := 1) (N := some 78) (v := ?_) (a' := ?_) #[true, true, false, false, false, false, false, false, false, false, false, false, false, false, false, false, false] rfl rfl (any_of HT_.out (by kernel_rfl)) (fun _ _ _ h => h) (Or.inl ⟨by rfl, ?_⟩) ?_ ?_
                                                rotate_left
                                                · intro w'
                                                  go_simp
                                                  with_reducible rfl
                                                rotate_left
                                                · simp only [Act.put, List.setIfInBounds_toArray, List.set_cons_zero, List.set_cons_succ, i64_w, i32_w]
                                                  rfl
                                                refine pure_ (i := 2) (N := some 79) (v := ?_) (a' := ?_) #[true, true, true, false, false, false, false, false, false, false, false, false, false, false, false, false, false] rfl rfl (any_of HT_.out (by kernel_rfl)) (fun _ _ _ h => h) (Or.inl ⟨by rfl, ?_⟩) ?_ ?_
                                                rotate_left
                                                · intro w'
                                                  go_simp
                                                  with_reducible rfl
                                                rotate_left
                                                · simp only [Act.put, List.setIfInBounds_toArray, List.set_cons_zero, List.set_cons_succ, i64_w, i32_w]
                                                  rfl
                                                refine pure_ (i := 3) (N := some 80) (v := ?_) (a' := ?_) #[true, true, true, true, false, false, false, false, false, false, false, false, false, false, false, false, false] rfl rfl (any_of HT_.out (by kernel_rfl)) (fun _ _ _ h => h) (Or.inl ⟨by rfl, ?_⟩) ?_ ?_
                                                rotate_left
                                                · intro w'
                                                  go_simp
                                                  with_reducible rfl
                                                rotate_left
                                                · simp only [Act.put, List.setIfInBounds_toArray, List.set_cons_zero, List.set_cons_succ, i64_w, i32_w]
                                                  rfl
                                                refine pure_ (i := 4) (N := some 81) (v := ?_) (a' := ?_) #[true, true, true, true, true, false, false, false, false, false, false, false, false, false, false, false, false] rfl rfl (any_of HT_.out (by kernel_rfl)) (fun _ _ _ h => h) (Or.inl ⟨by rfl, ?_⟩) ?_ ?_
                                                rotate_left
                                                · intro w'
                                                  go_simp
                                                  with_reducible rfl
                                                rotate_left
                                                · simp only [Act.put, List.setIfInBounds_toArray, List.set_cons_zero, List.set_cons_succ, i64_w, i32_w]
                                                  rfl
                                                refine pure_ (i := 5) (N := some 82) (v := ?_) (a' := ?_) #[true, true, true, true, true, true, false, false, false, false, false, false, false, false, false, false, false] rfl rfl (any_of HT_.out (by kernel_rfl)) (fun _ _ _ h => h) (Or.inl ⟨by rfl, ?_⟩) ?_ ?_
                                                rotate_left
                                                · intro w'
                                                  go_simp
                                                  with_reducible rfl
                                                rotate_left
                                                · simp only [Act.put, List.setIfInBounds_toArray, List.set_cons_zero, List.set_cons_succ, i64_w, i32_w]
                                                  rfl
                                                refine pure_ (i := 6) (N := some 83) (v := ?_) (a' := ?_) #[true, true, true, true, true, true, true, false, false, false, false, false, false, false, false, false, false] rfl rfl (any_of HT_.out (by kernel_rfl)) (fun _ _ _ h => h) (Or.inl ⟨by rfl, ?_⟩) ?_ ?_
                                                rotate_left
                                                · intro w'
                                                  go_simp
                                                  with_reducible rfl
                                                rotate_left
                                                · simp only [Act.put, List.setIfInBounds_toArray, List.set_cons_zero, List.set_cons_succ, i64_w, i32_w]
                                                  rfl
                                                refine pure_ (i := 7) (N := some 84) (v := ?_) (a' := ?_) #[true, true, true, true, true, true, true, true, false, false, false, false, false, false, false, false, false] rfl rfl (any_of HT_.out (by kernel_rfl)) (fun _ _ _ h => h) (Or.inl ⟨by rfl, ?_⟩) ?_ ?_
                                                rotate_left
                                                · intro w'
                                                  go_simp
                                                  with_reducible rfl
                                                rotate_left
                                                · simp only [Act.put, List.setIfInBounds_toArray, List.set_cons_zero, List.set_cons_succ, i64_w, i32_w]
                                                  rfl
                                                refine pure_ (i := 8) (N := some 85) (v := ?_) (a' := ?_) #[true, true, true, true, true, true, true, true, true, false, false, false, false, false, false, false, false] rfl rfl (any_of HT_.out (by kernel_rfl)) (fun _ _ _ h => h) (Or.inl ⟨by rfl, ?_⟩) ?_ ?_
                                                rotate_left
                                                · intro w'
                                                  go_simp
                                                  with_reducible rfl
                                                rotate_left
                                                · simp only [Act.put, List.setIfInBounds_toArray, List.set_cons_zero, List.set_cons_succ, i64_w, i32_w]
                                                  rfl
                                                refine pure_ (i := 9) (N := some 86) (v := ?_) (a' := ?_) #[true, true, true, true, true, true, true, true, true, true, false, false, false, false, false, false, false] rfl rfl (any_of HT_.out (by kernel_rfl)) (fun _ _ _ h => h) (Or.inl ⟨by rfl, ?_⟩) ?_ ?_
                                                rotate_left
                                                · intro w'
                                                  go_simp
                                                  with_reducible rfl
                                                rotate_left
                                                · simp only [Act.put, List.setIfInBounds_toArray, List.set_cons_zero, List.set_cons_succ, i64_w, i32_w]
                                                  rfl
                                                refine pure_ (i := 10) (N := some 87) (v := ?_) (a' := ?_) #[true, true, true, true, true, true, true, true, true, true, true, false, false, false, false, false, false] rfl rfl (any_of HT_.out (by kernel_rfl)) (fun _ _ _ h => h) (Or.inl ⟨by rfl, ?_⟩) ?_ ?_
                                                rotate_left
                                                · intro w'
                                                  go_simp
                                                  with_reducible rfl
                                                rotate_left
                                                · simp only [Act.put, List.setIfInBounds_toArray, List.set_cons_zero, List.set_cons_succ, i64_w, i32_w]
                                                  rfl
                                                refine pure_ (i := 11) (N := some 88) (v := ?_) (a' := ?_) #[true, true, true, true, true, true, true, true, true, true, true, true, false, false, false, false, false] rfl rfl (any_of HT_.out (by kernel_rfl)) (fun _ _ _ h => h) (Or.inl ⟨by rfl, ?_⟩) ?_ ?_
                                                rotate_left
                                                · intro w'
                                                  go_simp
                                                  with_reducible rfl
                                                rotate_left
                                                · simp only [Act.put, List.setIfInBounds_toArray, List.set_cons_zero, List.set_cons_succ, i64_w, i32_w]
                                                  rfl
                                                refine pure_ (i := 12) (N := some 89) (v := ?_) (a' := ?_) #[true, true, true, true, true, true, true, true, true, true, true, true, true, false, false, false, false] rfl rfl (any_of HT_.out (by kernel_rfl)) (fun _ _ _ h => h) (Or.inl ⟨by rfl, ?_⟩) ?_ ?_
                                                rotate_left
                                                · intro w'
                                                  go_simp
                                                  with_reducible rfl
                                                rotate_left
                                                · simp only [Act.put, List.setIfInBounds_toArray, List.set_cons_zero, List.set_cons_succ, i64_w, i32_w]
                                                  rfl
                                                refine last_ (i := 13) (N := none) #[true, true, true, true, true, true, true, true, true, true, true, true, true, true, false, false, false] rfl rfl (one_of HT_.out (by kernel_rfl)) (by decide) (fun K hK => ?_)
                                                refine skip_ (w1 := ?_) (by rfl) rfl ?_ ?_
                                                rotate_left
                                                · go_simp
                                                  rfl
                                                refine hK.out _ _ ?_
                                                clear hK K
                                                refine pure_ (i := 14) (N := some 90) (v := ?_) (a' := ?_) #[true, true, true, true, true, true, true, true, true, true, true, true, true, true, true, false, false] rfl rfl (any_of HT_.out (by kernel_rfl)) (fun _ _ _ h => h) (Or.inl ⟨by rfl, ?_⟩) ?_ ?_
                                                rotate_left
                                                · intro w'
                                                  go_simp
                                                  with_reducible rfl
                                                rotate_left
                                                · simp only [Act.put, List.setIfInBounds_toArray, List.set_cons_zero, List.set_cons_succ, i64_w, i32_w]
                                                  rfl
                                                refine last_ (i := 15) (N := none) #[true, true, true, true, true, true, true, true, true, true, true, true, true, true, true, true, false] rfl rfl (one_of HT_.out (by kernel_rfl)) (by decide) (fun K hK => ?_)
                                                refine skip_ (w1 := ?_) (by rfl) rfl ?_ ?_
                                                rotate_left
                                                · go_simp
                                                  rfl
                                                refine hK.out _ _ ?_
                                                clear hK K
                                                refine pure_ (i := 16) (N := some 4) (v := ?_) (a' := ?_) #[true, true, true, true, true, true, true, true, true, true, true, true, true, true, true, true, true] rfl rfl (any_of HT_.out (by kernel_rfl)) (fun _ _ _ h => h) (Or.inl ⟨by rfl, ?_⟩) ?_ ?_
                                                rotate_left
                                                · intro w'
                                                  go_simp
                                                  with_reducible rfl
                                                rotate_left
                                                · simp only [Act.put, List.setIfInBounds_toArray, List.set_cons_zero, List.set_cons_succ, i64_w, i32_w]
                                                  rfl
                                                refine done_ (done_of HT_.out (by kernel_rfl)) ?_
                                                try go_wp2
                                                go_meet
                                                case rel => exact ⟨_, (y204), (t202), (by first | rfl | (simp only [bytesLe_not]; done) | (simp; done) | (simp [*]; done)), H', ⟨by have := HJ4.out; have := HJ11.out; have := HJ20.out; first | omega | exact Nat.le_refl _⟩, ⟨by (try simp only [hl3_4]); (try simp only [hl3_20]); (with_reducible repeat (first | apply Kd.R_alloc | apply Kd.R_drewN | apply Kd.R_drew)); exact HQ57.out⟩, ⟨by repeat (first | (with_reducible first | exact HB.out | apply below_alloc | apply pw_below_drewN | apply below_drew1 | refine below_set ?_ GB4.out | refine below_set ?_ GB4.out) | exact HB.out)⟩⟩
                                            · rw [if_neg c53] at H
                                              exact absurd H (by simp)
                                          · rw [if_neg c51] at H
                                            exact absurd H (by simp)
                                        · rw [if_neg c49] at H
                                          exact absurd H (by simp)
                                      · rw [if_neg c48] at H
                                        exact absurd H (by simp)
                                    · rw [if_neg c46] at H
                                      exact absurd H (by simp)
                                  · rw [if_neg c45] at H
                                    exact absurd H (by simp)
                                · rw [if_neg c44] at H
                                  exact absurd H (by simp)
                              · rw [if_neg c43] at H
                                have c43b0 : decide (x4_20 < t202) = false := decide_eq_false c43
                                clear c43
                                (first | rw [c43b0] | (simp only [i64_w, i32_w]; rw [c43b0]) | skip)
                                as_aux_lemma =>
                                  have H' := Aside0.mk H
                                  clear H
                                  go_wp2
                                  go_meet
                                  case rel => exact ⟨_, (x3_20), (x4_20), (by first | rfl | (simp only [bytesLe_not]; done) | (simp; done) | (simp [*]; done)), H', ⟨by have := HJ4.out; have := HJ11.out; have := HJ20.out; first | omega | exact Nat.le_refl _⟩, ⟨by (try simp only [hl3_4]); (try simp only [hl3_20]); (with_reducible repeat (first | apply Kd.R_alloc | apply Kd.R_drewN | apply Kd.R_drew)); exact HO_3.out⟩, ⟨by repeat (first | (with_reducible first | exact HB.out | apply below_alloc | apply pw_below_drewN | apply below_drew1) | exact HB.out)⟩⟩
                            case rest =>
                              clear HC42
                              try clear c1
                              try clear p1
                              try clear q1
                              try clear hx1
                              try clear qi1
                              try clear c2
                              try clear c2b0
                              try clear c2b1
                              try clear p2
                              try clear q2
                              try clear hx2
                              try clear qi2
                              try clear hf2
                              try clear c3
                              try clear c3b0
                              try clear c3b1
                              try clear p3
                              try clear q3
                              try clear hx3
                              try clear hf3
                              try clear c4
                              try clear p4
                              try clear q4
                              try clear hx4
                              try clear qi4
                              try clear hf4
                              try clear c5
                              try clear p5
                              try clear q5
                              try clear hx5
                              try clear qi5
                              try clear hf5
                              try clear p6
                              try clear c10
                              try clear c10b0
                              try clear c10b1
                              try clear p11
                              try clear q11
                              try clear hx11
                              try clear qi11
                              try clear c13
                              try clear c15
                              try clear c15b0
                              try clear c15b1
                              try clear c16
                              try clear c16b0
                              try clear c16b1
                              try clear c17
                              try clear c17b0
                              try clear c17b1
                              try clear c18
                              try clear c18b0
                              try clear c18b1
                              try clear c19
                              try clear c19b0
                              try clear c19b1
                              try clear p20
                              try clear q20
                              try clear hx20
                              try clear qi20
                              try clear hf20
                              try clear c24
                              try clear c24b0
                              try clear c26
                              try clear c26b0
                              try clear c27
                              try clear c27b0
                              try clear p28
                              try clear q28
                              try clear hx28
                              try clear c29
                              try clear c29b0
                              try clear c29b1
                              try clear c31
                              try clear c33
                              try clear c33b0
                              try clear c33b1
                              try clear c34
                              try clear c34b0
                              try clear c34b1
                              try clear c35
                              try clear c35b0
                              try clear c35b1
                              try clear c36
                              try clear c36b0
                              try clear c37
                              try clear c37b0
                              try clear c38
                              try clear p38
                              try clear q38
                              try clear hx38
                              try clear hf38
                              try clear c43
                              try clear c43b0
                              try clear c44
                              try clear c44b0
                              try clear c44b1
                              try clear c45
                              try clear c45b0
                              try clear c45b1
                              try clear c46
                              try clear c46b0
                              try clear c46b1
                              try clear c48
                              try clear c48b0
                              try clear c48b1
                              try clear c49
                              try clear c49b0
                              try clear c49b1
                              try clear c50
                              try clear c50b0
                              try clear c51
                              try clear c51b0
                              try clear c51b1
                              try clear p52
                              try clear q52
                              try clear hx52
                              try clear qi52
                              try clear hf52
                              try clear c53
                              try clear c53b0
                              try clear c53b1
                              try clear p54
                              try clear q54
                              try clear hx54
                              try clear qi54
                              try clear hf54
                              try clear hx20_0
                              try clear hx38_0
                              try clear hx4_0
                              try clear hx52_0
                              try clear hx54_0
                              try clear p1
                              try clear p11
                              try clear p2
                              try clear p20
                              try clear p28
                              try clear p3
                              try clear p38
                              try clear p4
                              try clear p52
                              try clear p54
                              try clear p6
                              try clear q1
                              try clear q11
                              try clear q2
                              try clear q20
                              try clear q28
                              try clear q3
                              try clear q38
                              try clear q4
                              try clear q52
                              try clear q54
                              obtain ⟨kq, x3_41, x4_41, rfl, HA, HJ41, HO_3, HB⟩ := hcut
                              have hl3_41 := (Kd.R_reads' HO_3.out).1
                              rw [hl3_41] at HO_3
                              (try simp only [hl3_41])
                              cases kq with
                              | zero => exact absurd HA.out (by simp [semver_zzLoose.j5])
                              | succ kj41 =>
                                have H := HA.out
                                clear HA
                                simp only [semver_zzLoose.j5] at H
                                replace H := Option.bind_eq_some_iff.mp H
                                obtain ⟨t205, A580, H⟩ := H
                                replace H : (if t205 > x4_41 then (if 0 ≤ x4_41 then (if x4_41 ≤ t205 then (if t205 ≤ (a0.size : Int) then (if 0 ≤ (wrap64 (x4_41 + 1)) then (if (wrap64 (x4_41 + 1)) ≤ t205 then (if 7 < (x3_41.length : Int) then (if 8 < (x3_41.length : Int) then (semver_zzLoose.j6 kj41 a0 ((x3_41.set (7 : Int).toNat (a0.extract (x4_41 : Int).toNat (t205 : Int).toNat)).set (8 : Int).toNat (a0.extract ((wrap64 (x4_41 + 1)) : Int).toNat (t205 : Int).toNat)) t205) else (none)) else (none)) else (none)) else (none)) else (none)) else (none)) else (none)) else (semver_zzLoose.j6 kj41 a0 x3_41 x4_41)) = some r := H
                                have A58 := Aside0.mk A580
                                clear A580
                                have HC59 := Aside0.mk H
                                clear H
                                go_upto_if 96 with (first | ((with_reducible refine gate_callee (f := 44) rfl ?_); refine goesL_ (some 93) rfl rfl Tryz.func44 (by kernel_rfl) rfl #[.string a0, .int .i64 x4_41, .int .u8 43] rfl (by (try simp only [List.map_toArray, List.map_cons, List.map_nil]); first | done | rfl | (simp only [List.length_drop, List.length_take]; rfl)) ?_; (with_reducible refine (semver_zzParts.calls kj41 a0 x4_41 43 t205 _ A58.out).mono ?_); rintro e w' ⟨rfl, ⟨nd, rfl⟩⟩; refine ⟨_, rfl, ?_⟩))
                                (try simp only [Act.put, List.setIfInBounds_toArray, List.set_cons_zero, List.set_cons_succ])
                                go_cut [4] (fun v4 wc => ∃ (kq : Nat) (x3_58 : List ByteArray) (x4_58 : Int), v4 = .int .i64 x4_58 ∧ Aside0 (semver_zzLoose.j6 kq a0 x3_58 x4_58 = some r) ∧ Aside0 (kq ≤ kj41) ∧ Aside0 (Kd.R Kd.string 9 wc w.heap.size (fun _ => True) (.slice (some ⟨go4, 0, none⟩) x3_41.length co4) x3_58) ∧ Aside0 (Below w.heap.size w wc))
                                case first =>
                                  have H := HC59.out
                                  clear HC59
                                  by_cases c60 : t205 > x4_41
                                  · rw [if_pos c60] at H
                                    have c60b0 : decide (x4_41 < t205) = true := decide_eq_true c60
                                    clear c60
                                    (first | rw [c60b0] | (simp only [i64_w, i32_w]; rw [c60b0]) | skip)
                                    by_cases c61 : 0 ≤ x4_41
                                    · rw [if_pos c61] at H
                                      have c61b0 := eq_true c61
                                      have c61b1 : decide (0 ≤ x4_41) = true := decide_eq_true c61
                                      clear c61
                                      by_cases c62 : x4_41 ≤ t205
                                      · rw [if_pos c62] at H
                                        have c62b0 := eq_true c62
                                        have c62b1 : decide (x4_41 ≤ t205) = true := decide_eq_true c62
                                        clear c62
                                        by_cases c63 : t205 ≤ (a0.size : Int)
                                        · rw [if_pos c63] at H
                                          have c63b0 := eq_true c63
                                          have c63b1 : decide (t205 ≤ (a0.size : Int)) = true := decide_eq_true c63
                                          clear c63
                                          obtain ⟨ji64, hji64⟩ : ∃ j_ : Int, (wrap64 (x4_41 + 1)) = j_ := ⟨_, rfl⟩
                                          replace H : (if 0 ≤ (ji64) then (if (ji64) ≤ t205 then (if 7 < (x3_41.length : Int) then (if 8 < (x3_41.length : Int) then (semver_zzLoose.j6 kj41 a0 ((x3_41.set (7 : Int).toNat (a0.extract (x4_41 : Int).toNat (t205 : Int).toNat)).set (8 : Int).toNat (a0.extract ((ji64) : Int).toNat (t205 : Int).toNat)) t205) else (none)) else (none)) else (none)) else (none)) = some r := by first | (rw [hji64] at H; exact H) | (simp only [hji64] at H ⊢; exact H)
                                          have hji64w : (IntKind.i64.wrap (x4_41 + 1)) = ji64 := (i64_w _).trans hji64
                                          by_cases c65 : 0 ≤ (ji64)
                                          · rw [if_pos c65] at H
                                            have c65b0 := eq_true c65
                                            have c65b1 : decide (0 ≤ (ji64)) = true := decide_eq_true c65
                                            clear c65
                                            by_cases c66 : (ji64) ≤ t205
                                            · rw [if_pos c66] at H
                                              have c66b0 := eq_true c66
                                              have c66b1 : decide ((ji64) ≤ t205) = true := decide_eq_true c66
                                              clear c66
                                              have c67b0 := eq_true (of_decide_eq_true (by first | (with_reducible assumption) | assumption) : t205 ≤ (a0.size : Int))
                                              by_cases c68 : 7 < (x3_41.length : Int)
                                              · rw [if_pos c68] at H
                                                have c68b0 : decide (7 < (x3_41.length : Int)) = true := decide_eq_true c68
                                                have c68b1 : decide (7 < x3_41.length) = true := decide_eq_true (by omega)
                                                clear c68
                                                obtain ⟨y206, hy206⟩ : ∃ y_ : List ByteArray, y_ = (x3_41.set (7 : Int).toNat (a0.extract (x4_41 : Int).toNat (t205 : Int).toNat)) := ⟨_, rfl⟩
                                                replace H : (if 8 < (x3_41.length : Int) then (semver_zzLoose.j6 kj41 a0 (y206.set (8 : Int).toNat (a0.extract ((ji64) : Int).toNat (t205 : Int).toNat)) t205) else (none)) = some r := by first | (rw [hy206]; with_reducible exact H) | (have H2_ := (Option.bind_some _ _).symm.trans H; rw [hy206]; with_reducible exact H2_) | (have H2_ := (Option.bind_some _ _).symm.trans H; with_reducible exact H2_) | with_reducible exact H | (rw [hy206]; exact H) | exact H
                                                have Ny206 := Aside0.mk hy206
                                                clear hy206
                                                by_cases c70 : 8 < (x3_41.length : Int)
                                                · rw [if_pos c70] at H
                                                  have c70b0 : decide (8 < (x3_41.length : Int)) = true := decide_eq_true c70
                                                  have c70b1 : decide (8 < x3_41.length) = true := decide_eq_true (by omega)
                                                  clear c70
                                                  obtain ⟨y207, hy207⟩ : ∃ y_ : List ByteArray, y_ = (y206.set (8 : Int).toNat (a0.extract ((ji64) : Int).toNat (t205 : Int).toNat)) := ⟨_, rfl⟩
                                                  replace H : (semver_zzLoose.j6 kj41 a0 y207 t205) = some r := by first | (rw [hy207]; with_reducible exact H) | (have H2_ := (Option.bind_some _ _).symm.trans H; rw [hy207]; with_reducible exact H2_) | (have H2_ := (Option.bind_some _ _).symm.trans H; with_reducible exact H2_) | with_reducible exact H | (rw [hy207]; exact H) | exact H
                                                  have Ny207 := Aside0.mk hy207
                                                  clear hy207
                                                  as_aux_lemma =>
                                                    have H' := Aside0.mk H
                                                    clear H
                                                    try go_wp2
                                                    have HO_3d := Aside0.mk (Kd.R_drewN HO_3.out nd)
                                                    have HBd := Aside0.mk (pw_below_drewN HB.out nd)
                                                    clear HO_3 HB
                                                    obtain ⟨wd, hwd⟩ : ∃ wd, wc.drewN nd = wd := ⟨_, rfl⟩
                                                    rw [hwd] at HO_3d HBd ⊢
                                                    have HO_3 := HO_3d
                                                    have HB := HBd
                                                    clear HO_3d HBd hwd
                                                    have n0_ := Aside0.mk (Kd.R_drew HO_3.out)
                                                    have n1_ := Aside0.mk (below_drew1 HB.out)
                                                    clear HO_3
                                                    clear HB
                                                    have HO_3 := n0_
                                                    have HB := n1_
                                                    clear n0_ n1_
                                                    have p69 : 0 ≤ (7 : Int) := (by omega)
                                                    have q69 : (7 : Int) < ((x3_41.length : Int) : Int) := of_decide_eq_true (by first | (with_reducible assumption) | assumption)
                                                    have qi69 : (7 < x3_41.length) = True := eq_true (by omega)
                                                    obtain ⟨hx69_0, hf69_0⟩ := Kd.R_celln (⟨#[]⟩ : ByteArray) HO_3.out (7 : Int) p69 q69
                                                    (try rw [show ((7 : Int)).toNat = 7 from rfl] at hx69_0)
                                                    (try simp only [Nat.reduceMul, Nat.zero_mul, Nat.zero_add, Nat.reduceAdd] at hx69_0)
                                                    (try rw [show ((7 : Int)).toNat = 7 from rfl] at hf69_0)
                                                    (try simp only [Nat.reduceMul, Nat.zero_mul, Nat.zero_add, Nat.reduceAdd] at hf69_0)
                                                    replace p69 := eq_true p69
                                                    replace q69 := eq_true q69
                                                    have HP73 := Kd.R_putn HO_3.out (7 : Int) (a0.extract (x4_41 : Int).toNat (t205 : Int).toNat)
                                                    rw [← Ny206.out] at HP73
                                                    have HQ73 := Aside0.mk HP73
                                                    clear HP73
                                                    have p71 : 0 ≤ (8 : Int) := (by omega)
                                                    have q71 : (8 : Int) < ((x3_41.length : Int) : Int) := of_decide_eq_true (by first | (with_reducible assumption) | assumption)
                                                    have qi71 : (8 < x3_41.length) = True := eq_true (by omega)
                                                    obtain ⟨hx71_0, hf71_0⟩ := Kd.R_celln (⟨#[]⟩ : ByteArray) HQ73.out (8 : Int) p71 q71
                                                    obtain ⟨hx71_b, hf71_b⟩ := Kd.R_celln (⟨#[]⟩ : ByteArray) HO_3.out (8 : Int) p71 q71
                                                    (try rw [show ((8 : Int)).toNat = 8 from rfl] at hx71_b)
                                                    (try simp only [Nat.reduceMul, Nat.zero_mul, Nat.zero_add, Nat.reduceAdd] at hx71_b)
                                                    (try rw [show ((8 : Int)).toNat = 8 from rfl] at hf71_b)
                                                    (try simp only [Nat.reduceMul, Nat.zero_mul, Nat.zero_add, Nat.reduceAdd] at hf71_b)
                                                    (try rw [show ((8 : Int)).toNat = 8 from rfl] at hx71_0)
                                                    (try simp only [Nat.reduceMul, Nat.zero_mul, Nat.zero_add, Nat.reduceAdd] at hx71_0)
                                                    (try rw [show ((8 : Int)).toNat = 8 from rfl] at hf71_0)
                                                    (try simp only [Nat.reduceMul, Nat.zero_mul, Nat.zero_add, Nat.reduceAdd] at hf71_0)
                                                    replace p71 := eq_true p71
                                                    replace q71 := eq_true q71
                                                    have HP74 := Kd.R_putn HQ73.out (8 : Int) (a0.extract ((ji64) : Int).toNat (t205 : Int).toNat)
                                                    rw [← Ny207.out] at HP74
                                                    have HQ74 := Aside0.mk HP74
                                                    clear HP74
                                                    refine start_ (n := 17) (S := fun w' => True) (ds := [13, 15]) #[false, false, false, false, false, false, false, false, false, false, false, false, false, false, false, false, false] (by kernel_rfl) rfl rfl trivial (fun hHeld => ?_); refine with_tabW semver_zzLoose.tab21 semver_zzLoose.bits21 (fun HT_ HW_ => ?_)
                                                    generalize wd.drew = w72 at HO_3 HB HQ73 HQ74 hf69_0 hf71_0 hx69_0 hx71_0 hx71_b hf71_b hHeld ⊢
                                                    refine pure_ (i := 0) (N := some 97) (v := ?_) (a' := ?_) #[true, false, false, false, false, false, false, false, false, false, false, false, false, false, false, false, false] rfl rfl (any_of HT_.out (by kernel_rfl)) (fun _ _ _ h => h) (Or.inl ⟨by rfl, ?_⟩) ?_ ?_
                                                    rotate_left
                                                    · intro w'
                                                      go_simp
                                                      with_reducible rfl
                                                    rotate_left
                                                    · simp only [Act.put, List.setIfInBounds_toArray, List.set_cons_zero, List.set_cons_succ, i64_w, i32_w]
                                                      rfl
                                                    refine pure_ (i := 1) (N := some 98) (v := ?_) (a' := ?_) #[true, true, false, false, false, false, false, false, false, false, false, false, false, false, false, false, false] rfl rfl (any_of HT_.out (by kernel_rfl)) (fun _ _ _ h => h) (Or.inl ⟨by rfl, ?_⟩) ?_ ?_
                                                    rotate_left
                                                    · intro w'
                                                      go_simp
                                                      with_reducible rfl
                                                    rotate_left
                                                    · simp only [Act.put, List.setIfInBounds_toArray, List.set_cons_zero, List.set_cons_succ, i64_w, i32_w]
                                                      rfl
                                                    refine pure_ (i := 2) (N := some 99) (v := ?_) (a' := ?_) #[true, true, true, false, false, false, false, false, false, false, false, false, false, false, false, false, false] rfl rfl (any_of HT_.out (by kernel_rfl)) (fun _ _ _ h => h) (Or.inl ⟨by rfl, ?_⟩) ?_ ?_
                                                    rotate_left
                                                    · intro w'
                                                      go_simp
                                                      with_reducible rfl
                                                    rotate_left
                                                    · simp only [Act.put, List.setIfInBounds_toArray, List.set_cons_zero, List.set_cons_succ, i64_w, i32_w]
                                                      rfl
                                                    refine pure_ (i := 3) (N := some 100) (v := ?_) (a' := ?_) #[true, true, true, true, false, false, false, false, false, false, false, false, false, false, false, false, false] rfl rfl (any_of HT_.out (by kernel_rfl)) (fun _ _ _ h => h) (Or.inl ⟨by rfl, ?_⟩) ?_ ?_
                                                    rotate_left
                                                    · intro w'
                                                      go_simp
                                                      with_reducible rfl
                                                    rotate_left
                                                    · simp only [Act.put, List.setIfInBounds_toArray, List.set_cons_zero, List.set_cons_succ, i64_w, i32_w]
                                                      rfl
                                                    refine pure_ (i := 4) (N := some 101) (v := ?_) (a' := ?_) #[true, true, true, true, true, false, false, false, false, false, false, false, false, false, false, false, false] rfl rfl (any_of HT_.out (by kernel_rfl)) (fun _ _ _ h => h) (Or.inl ⟨by rfl, ?_⟩) ?_ ?_
                                                    rotate_left
                                                    · intro w'
                                                      go_simp
                                                      with_reducible rfl
                                                    rotate_left
                                                    · simp only [Act.put, List.setIfInBounds_toArray, List.set_cons_zero, List.set_cons_succ, i64_w, i32_w]
                                                      rfl
                                                    refine pure_ (i := 5) (N := some 102) (v := ?_) (a' := ?_) #[true, true, true, true, true, true, false, false, false, false, false, false, false, false, false, false, false] rfl rfl (any_of HT_.out (by kernel_rfl)) (fun _ _ _ h => h) (Or.inl ⟨by rfl, ?_⟩) ?_ ?_
                                                    rotate_left
                                                    · intro w'
                                                      go_simp
                                                      with_reducible rfl
                                                    rotate_left
                                                    · simp only [Act.put, List.setIfInBounds_toArray, List.set_cons_zero, List.set_cons_succ, i64_w, i32_w]
                                                      rfl
                                                    refine pure_ (i := 6) (N := some 103) (v := ?_) (a' := ?_) #[true, true, true, true, true, true, true, false, false, false, false, false, false, false, false, false, false] rfl rfl (any_of HT_.out (by kernel_rfl)) (fun _ _ _ h => h) (Or.inl ⟨by rfl, ?_⟩) ?_ ?_
                                                    rotate_left
                                                    · intro w'
                                                      go_simp
                                                      with_reducible rfl
                                                    rotate_left
                                                    · simp only [Act.put, List.setIfInBounds_toArray, List.set_cons_zero, List.set_cons_succ, i64_w, i32_w]
                                                      rfl
                                                    refine pure_ (i := 7) (N := some 104) (v := ?_) (a' := ?_) #[true, true, true, true, true, true, true, true, false, false, false, false, false, false, false, false, false] rfl rfl (any_of HT_.out (by kernel_rfl)) (fun _ _ _ h => h) (Or.inl ⟨by rfl, ?_⟩) ?_ ?_
                                                    rotate_left
                                                    · intro w'
                                                      go_simp
                                                      with_reducible rfl
                                                    rotate_left
                                                    · simp only [Act.put, List.setIfInBounds_toArray, List.set_cons_zero, List.set_cons_succ, i64_w, i32_w]
                                                      rfl
                                                    refine pure_ (i := 8) (N := some 105) (v := ?_) (a' := ?_) #[true, true, true, true, true, true, true, true, true, false, false, false, false, false, false, false, false] rfl rfl (any_of HT_.out (by kernel_rfl)) (fun _ _ _ h => h) (Or.inl ⟨by rfl, ?_⟩) ?_ ?_
                                                    rotate_left
                                                    · intro w'
                                                      go_simp
                                                      with_reducible rfl
                                                    rotate_left
                                                    · simp only [Act.put, List.setIfInBounds_toArray, List.set_cons_zero, List.set_cons_succ, i64_w, i32_w]
                                                      rfl
                                                    refine pure_ (i := 9) (N := some 106) (v := ?_) (a' := ?_) #[true, true, true, true, true, true, true, true, true, true, false, false, false, false, false, false, false] rfl rfl (any_of HT_.out (by kernel_rfl)) (fun _ _ _ h => h) (Or.inl ⟨by rfl, ?_⟩) ?_ ?_
                                                    rotate_left
                                                    · intro w'
                                                      go_simp
                                                      with_reducible rfl
                                                    rotate_left
                                                    · simp only [Act.put, List.setIfInBounds_toArray, List.set_cons_zero, List.set_cons_succ, i64_w, i32_w]
                                                      rfl
                                                    refine pure_ (i := 10) (N := some 107) (v := ?_) (a' := ?_) #[true, true, true, true, true, true, true, true, true, true, true, false, false, false, false, false, false] rfl rfl (any_of HT_.out (by kernel_rfl)) (fun _ _ _ h => h) (Or.inl ⟨by rfl, ?_⟩) ?_ ?_
                                                    rotate_left
                                                    · intro w'
                                                      go_simp
                                                      with_reducible rfl
                                                    rotate_left
                                                    · simp only [Act.put, List.setIfInBounds_toArray, List.set_cons_zero, List.set_cons_succ, i64_w, i32_w]
                                                      rfl
                                                    refine pure_ (i := 11) (N := some 108) (v := ?_) (a' := ?_) #[true, true, true, true, true, true, true, true, true, true, true, true, false, false, false, false, false] rfl rfl (any_of HT_.out (by kernel_rfl)) (fun _ _ _ h => h) (Or.inl ⟨by rfl, ?_⟩) ?_ ?_
                                                    rotate_left
                                                    · intro w'
                                                      go_simp
                                                      with_reducible rfl
                                                    rotate_left
                                                    · simp only [Act.put, List.setIfInBounds_toArray, List.set_cons_zero, List.set_cons_succ, i64_w, i32_w]
                                                      rfl
                                                    refine pure_ (i := 12) (N := some 109) (v := ?_) (a' := ?_) #[true, true, true, true, true, true, true, true, true, true, true, true, true, false, false, false, false] rfl rfl (any_of HT_.out (by kernel_rfl)) (fun _ _ _ h => h) (Or.inl ⟨by rfl, ?_⟩) ?_ ?_
                                                    rotate_left
                                                    · intro w'
                                                      go_simp
                                                      with_reducible rfl
                                                    rotate_left
                                                    · simp only [Act.put, List.setIfInBounds_toArray, List.set_cons_zero, List.set_cons_succ, i64_w, i32_w]
                                                      rfl
                                                    refine last_ (i := 13) (N := none) #[true, true, true, true, true, true, true, true, true, true, true, true, true, true, false, false, false] rfl rfl (one_of HT_.out (by kernel_rfl)) (by decide) (fun K hK => ?_)
                                                    refine skip_ (w1 := ?_) (by rfl) rfl ?_ ?_
                                                    rotate_left
                                                    · go_simp
                                                      rfl
                                                    refine hK.out _ _ ?_
                                                    clear hK K
                                                    refine pure_ (i := 14) (N := some 110) (v := ?_) (a' := ?_) #[true, true, true, true, true, true, true, true, true, true, true, true, true, true, true, false, false] rfl rfl (any_of HT_.out (by kernel_rfl)) (fun _ _ _ h => h) (Or.inl ⟨by rfl, ?_⟩) ?_ ?_
                                                    rotate_left
                                                    · intro w'
                                                      go_simp
                                                      with_reducible rfl
                                                    rotate_left
                                                    · simp only [Act.put, List.setIfInBounds_toArray, List.set_cons_zero, List.set_cons_succ, i64_w, i32_w]
                                                      rfl
                                                    refine last_ (i := 15) (N := none) #[true, true, true, true, true, true, true, true, true, true, true, true, true, true, true, true, false] rfl rfl (one_of HT_.out (by kernel_rfl)) (by decide) (fun K hK => ?_)
                                                    refine skip_ (w1 := ?_) (by rfl) rfl ?_ ?_
                                                    rotate_left
                                                    · go_simp
                                                      rfl
                                                    refine hK.out _ _ ?_
                                                    clear hK K
                                                    refine pure_ (i := 16) (N := some 4) (v := ?_) (a' := ?_) #[true, true, true, true, true, true, true, true, true, true, true, true, true, true, true, true, true] rfl rfl (any_of HT_.out (by kernel_rfl)) (fun _ _ _ h => h) (Or.inl ⟨by rfl, ?_⟩) ?_ ?_
                                                    rotate_left
                                                    · intro w'
                                                      go_simp
                                                      with_reducible rfl
                                                    rotate_left
                                                    · simp only [Act.put, List.setIfInBounds_toArray, List.set_cons_zero, List.set_cons_succ, i64_w, i32_w]
                                                      rfl
                                                    refine done_ (done_of HT_.out (by kernel_rfl)) ?_
                                                    try go_wp2
                                                    go_meet
                                                    case rel => exact ⟨_, (y207), (t205), (by first | rfl | (simp only [bytesLe_not]; done) | (simp; done) | (simp [*]; done)), H', ⟨by have := HJ4.out; have := HJ11.out; have := HJ20.out; have := HJ41.out; first | omega | exact Nat.le_refl _⟩, ⟨by (try simp only [hl3_4]); (try simp only [hl3_20]); (try simp only [hl3_41]); (with_reducible repeat (first | apply Kd.R_alloc | apply Kd.R_drewN | apply Kd.R_drew)); exact HQ74.out⟩, ⟨by repeat (first | (with_reducible first | exact HB.out | apply below_alloc | apply pw_below_drewN | apply below_drew1 | refine below_set ?_ GB4.out | refine below_set ?_ GB4.out) | exact HB.out)⟩⟩
                                                · rw [if_neg c70] at H
                                                  exact absurd H (by simp)
                                              · rw [if_neg c68] at H
                                                exact absurd H (by simp)
                                            · rw [if_neg c66] at H
                                              exact absurd H (by simp)
                                          · rw [if_neg c65] at H
                                            exact absurd H (by simp)
                                        · rw [if_neg c63] at H
                                          exact absurd H (by simp)
                                      · rw [if_neg c62] at H
                                        exact absurd H (by simp)
                                    · rw [if_neg c61] at H
                                      exact absurd H (by simp)
                                  · rw [if_neg c60] at H
                                    have c60b0 : decide (x4_41 < t205) = false := decide_eq_false c60
                                    clear c60
                                    (first | rw [c60b0] | (simp only [i64_w, i32_w]; rw [c60b0]) | skip)
                                    as_aux_lemma =>
                                      have H' := Aside0.mk H
                                      clear H
                                      go_wp2
                                      go_meet
                                      case rel => exact ⟨_, (x3_41), (x4_41), (by first | rfl | (simp only [bytesLe_not]; done) | (simp; done) | (simp [*]; done)), H', ⟨by have := HJ4.out; have := HJ11.out; have := HJ20.out; have := HJ41.out; first | omega | exact Nat.le_refl _⟩, ⟨by (try simp only [hl3_4]); (try simp only [hl3_20]); (try simp only [hl3_41]); (with_reducible repeat (first | apply Kd.R_alloc | apply Kd.R_drewN | apply Kd.R_drew)); exact HO_3.out⟩, ⟨by repeat (first | (with_reducible first | exact HB.out | apply below_alloc | apply pw_below_drewN | apply below_drew1) | exact HB.out)⟩⟩
                                case rest =>
                                  clear HC59
                                  try clear c1
                                  try clear p1
                                  try clear q1
                                  try clear hx1
                                  try clear qi1
                                  try clear c2
                                  try clear c2b0
                                  try clear c2b1
                                  try clear p2
                                  try clear q2
                                  try clear hx2
                                  try clear qi2
                                  try clear hf2
                                  try clear c3
                                  try clear c3b0
                                  try clear c3b1
                                  try clear p3
                                  try clear q3
                                  try clear hx3
                                  try clear hf3
                                  try clear c4
                                  try clear p4
                                  try clear q4
                                  try clear hx4
                                  try clear qi4
                                  try clear hf4
                                  try clear c5
                                  try clear p5
                                  try clear q5
                                  try clear hx5
                                  try clear qi5
                                  try clear hf5
                                  try clear c6
                                  try clear p6
                                  try clear q6
                                  try clear hx6
                                  try clear qi6
                                  try clear hf6
                                  try clear c7
                                  try clear p7
                                  try clear q7
                                  try clear hx7
                                  try clear qi7
                                  try clear hf7
                                  try clear c10
                                  try clear c10b0
                                  try clear c10b1
                                  try clear p11
                                  try clear q11
                                  try clear hx11
                                  try clear qi11
                                  try clear c13
                                  try clear c15
                                  try clear c15b0
                                  try clear c15b1
                                  try clear c16
                                  try clear c16b0
                                  try clear c16b1
                                  try clear c17
                                  try clear c17b0
                                  try clear c17b1
                                  try clear c18
                                  try clear c18b0
                                  try clear c18b1
                                  try clear c19
                                  try clear c19b0
                                  try clear c19b1
                                  try clear p20
                                  try clear q20
                                  try clear hx20
                                  try clear qi20
                                  try clear hf20
                                  try clear c24
                                  try clear c24b0
                                  try clear c26
                                  try clear c26b0
                                  try clear c27
                                  try clear c27b0
                                  try clear p28
                                  try clear q28
                                  try clear hx28
                                  try clear c29
                                  try clear c29b0
                                  try clear c29b1
                                  try clear c31
                                  try clear c33
                                  try clear c33b0
                                  try clear c33b1
                                  try clear c34
                                  try clear c34b0
                                  try clear c34b1
                                  try clear c35
                                  try clear c35b0
                                  try clear c35b1
                                  try clear c36
                                  try clear c36b0
                                  try clear c37
                                  try clear c37b0
                                  try clear c38
                                  try clear p38
                                  try clear q38
                                  try clear hx38
                                  try clear hf38
                                  try clear c43
                                  try clear c43b0
                                  try clear c44
                                  try clear c44b0
                                  try clear c44b1
                                  try clear c45
                                  try clear c45b0
                                  try clear c45b1
                                  try clear c46
                                  try clear c46b0
                                  try clear c46b1
                                  try clear c48
                                  try clear c48b0
                                  try clear c48b1
                                  try clear c49
                                  try clear c49b0
                                  try clear c49b1
                                  try clear c50
                                  try clear c50b0
                                  try clear c51
                                  try clear c51b0
                                  try clear c51b1
                                  try clear p52
                                  try clear q52
                                  try clear hx52
                                  try clear qi52
                                  try clear hf52
                                  try clear c53
                                  try clear c53b0
                                  try clear c53b1
                                  try clear p54
                                  try clear q54
                                  try clear hx54
                                  try clear qi54
                                  try clear hf54
                                  try clear c60
                                  try clear c60b0
                                  try clear c61
                                  try clear c61b0
                                  try clear c61b1
                                  try clear c62
                                  try clear c62b0
                                  try clear c62b1
                                  try clear c63
                                  try clear c63b0
                                  try clear c63b1
                                  try clear p64
                                  try clear c65
                                  try clear c65b0
                                  try clear c65b1
                                  try clear c66
                                  try clear c66b0
                                  try clear c66b1
                                  try clear c67
                                  try clear c67b0
                                  try clear c68
                                  try clear c68b0
                                  try clear c68b1
                                  try clear p69
                                  try clear q69
                                  try clear hx69
                                  try clear qi69
                                  try clear hf69
                                  try clear c70
                                  try clear c70b0
                                  try clear c70b1
                                  try clear p71
                                  try clear q71
                                  try clear hx71
                                  try clear qi71
                                  try clear hf71
                                  try clear hx20_0
                                  try clear hx38_0
                                  try clear hx4_0
                                  try clear hx52_0
                                  try clear hx54_0
                                  try clear hx69_0
                                  try clear hx71_0
                                  try clear p1
                                  try clear p11
                                  try clear p2
                                  try clear p20
                                  try clear p28
                                  try clear p3
                                  try clear p38
                                  try clear p4
                                  try clear p5
                                  try clear p52
                                  try clear p54
                                  try clear p6
                                  try clear p69
                                  try clear p71
                                  try clear q1
                                  try clear q11
                                  try clear q2
                                  try clear q20
                                  try clear q28
                                  try clear q3
                                  try clear q38
                                  try clear q4
                                  try clear q5
                                  try clear q52
                                  try clear q54
                                  try clear q69
                                  try clear q71
                                  obtain ⟨kq, x3_58, x4_58, rfl, HA, HJ58, HO_3, HB⟩ := hcut
                                  have hl3_58 := (Kd.R_reads' HO_3.out).1
                                  rw [hl3_58] at HO_3
                                  (try simp only [hl3_58])
                                  cases kq with
                                  | zero => exact absurd HA.out (by simp [semver_zzLoose.j6])
                                  | succ kj58 =>
                                    have H := HA.out
                                    clear HA
                                    simp only [semver_zzLoose.j6] at H
                                    by_cases c75 : x4_58 = (a0.size : Int)
                                    · rw [if_pos c75] at H
                                      have c75b0 : (x4_58 == (a0.size : Int)) = true := beq_iff_eq.mpr c75
                                      have c75b1 : (x4_58 != (a0.size : Int)) = false := bne_eq_false_iff_eq.mpr c75
                                      clear c75
                                      as_aux_lemma =>
                                        obtain rfl := Option.some.inj H
                                        go_wp2
                                        go_ret
                                        exact ⟨_, by first | rfl | (simp [errW_none, errW_some] <;> rfl) | (simp [*, errW_none, errW_some] <;> rfl), by (with_reducible repeat (first | apply Kd.R_alloc | apply Kd.R_drewN | apply Kd.R_drew)); exact HO_3.out, by repeat (first | (with_reducible first | exact HB.out | apply below_alloc | apply pw_below_drewN | apply below_drew1) | exact HB.out)⟩
                                    · rw [if_neg c75] at H
                                      have c75b0 : (x4_58 == (a0.size : Int)) = false := beq_eq_false_iff_ne.mpr c75
                                      have c75b1 : (x4_58 != (a0.size : Int)) = true := bne_iff_ne.mpr c75
                                      as_aux_lemma =>
                                        obtain rfl := Option.some.inj H
                                        go_wp2
                                        go_ret
                                        exact ⟨_, by first | rfl | (simp [errW_none, errW_some] <;> rfl) | (simp [*, errW_none, errW_some] <;> rfl), by first | exact Kd.R_nil _ _ _ _ _ | exact Kd.N_nil _ _ _ _ _ | exact Kd.V_nil _ _ _ _ _ | exact Kd.Q_nil _ _ _ _ _ | exact Kd.S_nil _ _ _ _ _, by repeat (first | (with_reducible first | exact HB.out | apply below_alloc | apply pw_below_drewN | apply below_drew1) | exact HB.out)⟩
                      · rw [if_neg c19] at H
                        exact absurd H (by simp)
                    · rw [if_neg c18] at H
                      exact absurd H (by simp)
                  · rw [if_neg c17] at H
                    exact absurd H (by simp)
                · rw [if_neg c16] at H
                  exact absurd H (by simp)
    · rw [if_neg c3] at H
      exact absurd H (by simp)
  · rw [if_neg c2] at H
    exact absurd H (by simp)

end Go.Proofs.YtlhijjfbcgconaaGreatDoor.P

