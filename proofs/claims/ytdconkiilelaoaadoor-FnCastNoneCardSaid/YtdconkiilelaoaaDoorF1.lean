/- FnFloor holds. -/
import Derived.Test.YtdconkiilelaoaaDoorPx0
import Derived.Laws.Externs
import Derived.Lib.Hide
set_option linter.unusedVariables false
set_option linter.unusedSimpArgs false
namespace Go.Proofs.YtdconkiilelaoaaDoor.P
open Go.RowKit Go.Proofs.YtdconkiilelaoaaDoorW.PrintWords Go.Proofs.YtdconkiilelaoaaDoorW.PrintLast Go.Proofs.YtdconkiilelaoaaDoorW.PrintMore

/-! ### words that are no NaN -/
/-- A word that is no NaN. -/
def NoNaN (x : Nat) : Prop := ∃ d, FloatKind.f64.format.read x = d ∧ d.isNaN = false
theorem fsw : FloatKind.f64.format.signWeight = 9223372036854775808 := by decide +kernel
theorem fbin : FloatKind.f64.format.binade = 4503599627370496 := by decide +kernel
theorem finf : FloatKind.f64.format.infRung = 9218868437227405312 := by decide +kernel
theorem read_word (s : Bool) (r : Nat) (h : r ≤ 9218868437227405312) : NoNaN (FloatKind.f64.format.word s r) := by
  refine ⟨_, rfl, ?_⟩
  unfold Ieee.Format.read Ieee.Format.word
  simp only [fsw, fbin, finf]
  have e : (if s = true then 9223372036854775808 + r else r) % 9223372036854775808 = r := by split <;> omega
  rw [e]
  split
  · rfl
  · split
    · rfl
    · rw [if_pos (by omega)]
      rfl
theorem write_no (d : Ieee.Datum) (h : d.isNaN = false) : NoNaN (FloatKind.f64.encode d) := by
  cases d with
  | nan s t => cases h
  | infinity s => exact read_word s _ (by rw [finf]; exact Nat.le_refl _)
  | number s m i =>
    show NoNaN (FloatKind.f64.format.nearest s m i)
    unfold Ieee.Format.nearest
    split
    · exact read_word s 0 (by decide)
    · exact read_word s _ (by rw [finf]; exact Nat.min_le_right _ _)
theorem order_self (d : Ieee.Datum) (h : d.isNaN = false) : d.order d = some Ordering.eq := by
  cases d with
  | nan s t => cases h
  | infinity s => cases s <;> rfl
  | number s m i =>
    show some (compare _ _) = _
    simp
theorem NoNaN.eq {x : Nat} (h : NoNaN x) : FloatKind.f64.format.order x x = some Ordering.eq := by
  obtain ⟨d, h1, h2⟩ := h
  unfold Ieee.Format.order
  rw [h1]
  exact order_self d h2
theorem NoNaN.of {x : Nat} (h : FloatKind.f64.format.order x x = some Ordering.eq) : NoNaN x := by
  refine ⟨_, rfl, ?_⟩
  unfold Ieee.Format.order at h
  cases hd : FloatKind.f64.format.read x with
  | nan s t => rw [hd] at h; cases h
  | infinity s => rfl
  | number s m i => rfl
/-- What Floor and Ceil give. -/
def whole (way : Ieee.Toward) (x : Nat) : Nat := FloatKind.f64.encode ((FloatKind.f64.decode x).integral way)
theorem whole_no (way : Ieee.Toward) {x : Nat} (h : NoNaN x) : NoNaN (whole way x) := by
  obtain ⟨d, h1, h2⟩ := h
  unfold whole
  rw [show FloatKind.f64.decode x = d from h1]
  cases d with
  | nan s t => cases h2
  | infinity s => exact write_no _ rfl
  | number s m i => exact write_no _ rfl
def tiMid (way : Ieee.Toward) (x : Nat) (d : Ieee.Datum) : Sem Value :=
  match d with
  | .nan s t =>
    if FloatKind.f64.format.quiet t = t then pure (.float .f64 x) else do
    let kept ← choose (.extern "math.Floor,Ceil,Trunc,RoundToEven.signallingNaN kept" 2)
    pure (.float .f64 (if kept == 1 then x else FloatKind.f64.encode (.nan s (FloatKind.f64.format.quiet t))))
  | d => pure (.float .f64 (FloatKind.f64.encode (d.integral way)))
theorem toIntegral_eq (name : String) (way : Ieee.Toward) (x : Nat) : Extern.MathFloor.toIntegral name way #[.float .f64 x] = tiMid way x (FloatKind.f64.decode x) := rfl
theorem toIntegral_run {P : Program} (name : String) (way : Ieee.Toward) {x : Nat} (h : NoNaN x) (W : World) : (Extern.MathFloor.toIntegral name way #[.float .f64 x]).run P W = .ok (.float .f64 (whole way x)) W := by
  obtain ⟨d, h1, h2⟩ := h
  have e : FloatKind.f64.decode x = d := h1
  unfold whole
  cases d with
  | nan s t => cases h2
  | infinity s => rw [toIntegral_eq, e]; rfl
  | number s m i => rw [toIntegral_eq, e]; rfl
theorem archFloor_run {x : Nat} (h : NoNaN x) (W : World) : (callFunc 21 #[.float .f64 x]).run Tryd.prog W = .ok (.value (.float .f64 (whole .down x))) W := by
  rw [run_callFunc_extern Tryd.func21 (by kernel_rfl) (by kernel_rfl) (by kernel_rfl) (e := Extern.MathFloor.toIntegral "math.archFloor" .down) (by kernel_rfl), toIntegral_run _ _ h]
  rfl
theorem archCeil_run {x : Nat} (h : NoNaN x) (W : World) : (callFunc 24 #[.float .f64 x]).run Tryd.prog W = .ok (.value (.float .f64 (whole .up x))) W := by
  rw [run_callFunc_extern Tryd.func24 (by kernel_rfl) (by kernel_rfl) (by kernel_rfl) (e := Extern.MathFloor.toIntegral "math.archCeil" .up) (by kernel_rfl), toIntegral_run _ _ h]
  rfl
theorem bits_run (x : Nat) (W : World) : (callFunc 38 #[.float .f64 x]).run Tryd.prog W = .ok (.value (.int .u64 x)) W := by
  rw [run_callFunc_extern Tryd.func38 (by kernel_rfl) (by kernel_rfl) (by kernel_rfl) (e := Extern.MathFloatBits.float64bits) (by kernel_rfl)]
  rfl
theorem frombits_run (n : Int) (W : World) : (callFunc 37 #[.int .u64 n]).run Tryd.prog W = .ok (.value (.float .f64 n.toNat)) W := by
  rw [run_callFunc_extern Tryd.func37 (by kernel_rfl) (by kernel_rfl) (by kernel_rfl) (e := Extern.MathFloatBits.float64frombits) (by kernel_rfl)]
  rfl
set_option maxHeartbeats 1600000 in
set_option maxRecDepth 100000 in
theorem isNaN_call (x : Nat) (w : World) :
    Calls Tryd.prog 6 #[.float .f64 x] w fun e w' => e = .returned (.bool (!(FloatKind.f64.format.order x x == some Ordering.eq))) ∧ w = w' := by
  go_enter Tryd.func6, Tryd.ntmps6
  go_wp2
  go_ret
  exact ⟨rfl, rfl⟩
set_option maxHeartbeats 1600000 in
set_option maxRecDepth 100000 in
theorem isInf_call (x : Nat) : ∃ b : Bool, ∀ w : World, Calls Tryd.prog 7 #[.float .f64 x, .int .i64 0] w fun e w' => e = .returned (.bool b) ∧ w = w' := by
  have h1 := fun W => bits_run x W
  have h2 := fun n W => frombits_run n W
  refine ⟨(FloatKind.f64.format.order (bits BinOp.andNot IntKind.u64 (x : Int) 9223372036854775808).toNat 9218868437227405311 == some Ordering.gt), fun w => ?_⟩
  go_enter Tryd.func7, Tryd.ntmps7
  go_wp2
  go_ret
  exact ⟨rfl, rfl⟩
set_option maxHeartbeats 1600000 in
set_option maxRecDepth 100000 in
theorem mathFloor_call {x : Nat} (h : NoNaN x) (w : World) :
    Calls Tryd.prog 9 #[.float .f64 x] w fun e w' => e = .returned (.float .f64 (whole .down x)) ∧ w = w' := by
  have h1 := fun W => archFloor_run h W
  clear h
  go_enter Tryd.func9, Tryd.ntmps9
  go_wp2
  go_ret
  exact ⟨rfl, rfl⟩
set_option maxHeartbeats 1600000 in
set_option maxRecDepth 100000 in
theorem mathCeil_call {x : Nat} (h : NoNaN x) (w : World) :
    Calls Tryd.prog 11 #[.float .f64 x] w fun e w' => e = .returned (.float .f64 (whole .up x)) ∧ w = w' := by
  have h1 := fun W => archCeil_run h W
  clear h
  go_enter Tryd.func11, Tryd.ntmps11
  go_wp2
  go_ret
  exact ⟨rfl, rfl⟩
set_option maxHeartbeats 1600000 in
set_option maxRecDepth 100000 in
theorem toFloat_call (x : Nat) (w : World) :
    Calls Tryd.prog 56 #[.iface 22 (.float .f64 x)] w fun e w' => e = .returned (.float .f64 x) ∧ w = w' := by
  have hta : ∀ W : World, (Instr.typeAssert (Value.iface 22 (Value.float .f64 x)) 20 22 true).run Tryd.prog W = .ok (.tuple #[.float .f64 x, .bool true]) W := fun _ => by kernel_rfl
  go_enter Tryd.func56, Tryd.ntmps56
  go_wp2
  go_ret
  exact ⟨rfl, rfl⟩
set_option maxHeartbeats 1600000 in
set_option maxRecDepth 100000 in
theorem implFloor_call {x : Nat} (h : NoNaN x) (w : World) :
    Calls Tryd.prog 8 #[.float .f64 x] w fun e w' => e = .returned (.float .f64 (whole .down x)) ∧ w = w' := by
  have HF := Lib.hid (fun W => toFloat_call x W)
  have HM := Lib.hid (fun W => mathFloor_call h W)
  clear h
  go_enter Tryd.func8, Tryd.ntmps8
  go_wp2_with (first | (go_at_call 56; (refine (HF.out _).mono ?_); rintro e w' ⟨rfl, rfl⟩) | (go_at_call 9; (refine (HM.out _).mono ?_); rintro e w' ⟨rfl, rfl⟩) | go_in)
  go_ret
  exact ⟨rfl, rfl⟩
set_option maxHeartbeats 1600000 in
set_option maxRecDepth 100000 in
theorem implCeil_call {x : Nat} (h : NoNaN x) (w : World) :
    Calls Tryd.prog 10 #[.float .f64 x] w fun e w' => e = .returned (.float .f64 (whole .up x)) ∧ w = w' := by
  have HF := Lib.hid (fun W => toFloat_call x W)
  have HM := Lib.hid (fun W => mathCeil_call h W)
  clear h
  go_enter Tryd.func10, Tryd.ntmps10
  go_wp2_with (first | (go_at_call 56; (refine (HF.out _).mono ?_); rintro e w' ⟨rfl, rfl⟩) | (go_at_call 11; (refine (HM.out _).mono ?_); rintro e w' ⟨rfl, rfl⟩) | go_in)
  go_ret
  exact ⟨rfl, rfl⟩
set_option maxHeartbeats 1600000 in
set_option maxRecDepth 100000 in
theorem fnFloor (x : Nat) (w : World) :
    Calls Tryd.prog 3 #[.float .f64 x] w fun e w' => e = .returned (.bool true) ∧ Below w.heap.size w w' := by
  have HN := Lib.hid (fun W => isNaN_call x W)
  obtain ⟨b, hb⟩ := isInf_call x
  have HI := Lib.hid hb
  clear hb
  have HBB := Lib.hid (Below.refl w.heap.size w)
  by_cases hq : FloatKind.f64.format.order x x = some Ordering.eq
  · have HQ := NoNaN.of hq
    have H15 : NoNaN 4609434218613702656 := ⟨.number false 6755399441055744 (-52), by kernel_rfl, rfl⟩
    have HF := Lib.hid (fun W => implFloor_call HQ W)
    have HC := Lib.hid (fun W => implCeil_call HQ W)
    have HMF := Lib.hid (fun W => mathFloor_call HQ W)
    have HMC := Lib.hid (fun W => mathCeil_call HQ W)
    have HC2 := Lib.hid (fun W => implCeil_call H15 W)
    have e1 := (whole_no .down HQ).eq
    have e2 := (whole_no .up HQ).eq
    have e3 : FloatKind.f64.format.order (whole .up 4609434218613702656) 4611686018427387904 = some Ordering.eq := by kernel_rfl
    rw [hq, show (!(some Ordering.eq == some Ordering.eq)) = false from rfl] at HN
    generalize whole .up 4609434218613702656 = K at *
    generalize whole .up x = C at *
    generalize whole .down x = F at *
    clear H15 HQ hq
    go_enter Tryd.func3, Tryd.ntmps3
    go_wp2_with fail
    refine (HN.out _).mono ?_
    rintro e _ ⟨rfl, rfl⟩
    go_wp2_with fail
    refine (HI.out _).mono ?_
    rintro e _ ⟨rfl, rfl⟩
    cases b with
    | true =>
      go_wp2
      go_ret
      exact ⟨rfl, HBB.out⟩
    | false =>
      go_wp2_with fail
      refine (HF.out _).mono ?_
      rintro e _ ⟨rfl, rfl⟩
      go_wp2_with fail
      refine (HMF.out _).mono ?_
      rintro e _ ⟨rfl, rfl⟩
      go_wp2_with fail
      refine (HC.out _).mono ?_
      rintro e _ ⟨rfl, rfl⟩
      go_wp2_with fail
      refine (HMC.out _).mono ?_
      rintro e _ ⟨rfl, rfl⟩
      go_wp2_with fail
      refine (HC2.out _).mono ?_
      rintro e _ ⟨rfl, rfl⟩
      go_wp2
      go_ret
      exact ⟨rfl, HBB.out⟩
  · have e0 : (FloatKind.f64.format.order x x == some Ordering.eq) = false := by
      cases hz : (FloatKind.f64.format.order x x == some Ordering.eq) with
      | false => rfl
      | true => exact absurd (eq_of_beq hz) hq
    rw [e0, Bool.not_false] at HN
    clear hq e0
    go_enter Tryd.func3, Tryd.ntmps3
    go_wp2_with fail
    refine (HN.out _).mono ?_
    rintro e _ ⟨rfl, rfl⟩
    go_wp2
    go_ret
    exact ⟨rfl, HBB.out⟩
end Go.Proofs.YtdconkiilelaoaaDoor.P
