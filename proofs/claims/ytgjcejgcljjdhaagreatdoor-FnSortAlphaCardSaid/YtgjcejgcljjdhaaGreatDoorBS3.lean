/- FnSortAlpha holds. -/
import Derived.Test.YtgjcejgcljjdhaaGreatDoorBS2
set_option linter.unusedVariables false
set_option linter.unusedSimpArgs false
namespace Go.Proofs.YtgjcejgcljjdhaaGreatDoor.P
open Go.RowKit Go.Proofs.YtgjcejgcljjdhaaGreatDoorW.PrintWords Go.Proofs.YtgjcejgcljjdhaaGreatDoorW.PrintLast Go.Proofs.YtgjcejgcljjdhaaGreatDoorW.PrintMore

set_option maxHeartbeats 3200000 in
set_option maxRecDepth 100000 in
theorem fnSortAlpha (l : List S36) (A : Option Addr) (c : Nat) (w : World) (hw : ∀ y ∈ l, Whole64 y) (hA : k36.C w A l.length l) (hc : l.length ≤ c) (hT : TabsW w) :
    Calls Tryz.prog 4 #[.slice A l.length c] w fun e w' => e = .returned (.bool true) ∧ Below w.heap.size w w' := by
  have HW := Lib.hid (show ∀ y ∈ l, -9223372036854775808 ≤ y.f1 ∧ y.f1 ≤ 9223372036854775807 from fun y hy => by
    cases hw y hy with
    | mk _ h1 h2 _ => exact ⟨h1, h2⟩)
  have HA := Lib.hid hA
  have HT := Lib.hid hT
  have HB := Lib.hid (Below.refl w.heap.size w)
  clear hw hA hT
  by_cases hk0 : 2147483647 < (l.length : Int)
  · have hd0 : decide (2147483647 < (l.length : Int)) = true := decide_eq_true hk0
    go_enter Tryz.func4, Tryz.ntmps4
    go_wp2
    go_ret
    exact ⟨rfl, HB.out⟩
  have hd0 : decide (2147483647 < (l.length : Int)) = false := decide_eq_false hk0
  have HSI := Lib.hid (simple_call l A c w (by omega) HA.out)
  go_enter Tryz.func4, Tryz.ntmps4
  go_wp2_with fail
  refine HSI.out.mono ?_
  rintro e w1 ⟨r, rfl, hr, hb1⟩
  have HB1 := Lib.hid hb1
  cases r with
  | false =>
    clear hr hb1 HSI
    go_wp2
    go_ret
    exact ⟨rfl, HB1.out⟩
  | true =>
    obtain ⟨hl20, hg⟩ := hr (by trivial)
    have hs : ∀ x ∈ l, simpV x = true := fun x hx => good_simp (hg x hx) (HW.out x hx).1 (HW.out x hx).2
    have HS := Lib.hid hs
    have HL := Lib.hid (show l.length ≤ 1000 by omega)
    have HSO := Lib.hid (implSortAlpha l A c w1 hs (by omega) (Kd.C_below HA.out hb1) (HT.out.below hb1))
    clear hr hb1 HSI hg hl20 hk0 hd0 hs
    go_wp2_with fail
    refine HSO.out.mono ?_
    rintro e w2 ⟨u2, ys, rfl, hr2, hs2, hb2⟩
    obtain ⟨A2, c2, rfl, le2, hC2⟩ := Kd.R_reads hr2
    have HC2 := Lib.hid hC2
    have HS2 := Lib.hid hs2
    have HB2 := Lib.hid (HB1.out.trans (hb2.mono HB1.out.size))
    have HSA := Lib.hid (shownAll_call l A c w2 HS.out HL.out (Kd.C_below HA.out HB2.out))
    clear hb2 HSO HB1 hr2 hs2 hC2 le2
    go_wp2_with fail
    refine HSA.out.mono ?_
    rintro e w3 ⟨u3, rfl, hr3, hb3⟩
    have HB3 := Lib.hid (HB2.out.trans (hb3.mono HB2.out.size))
    obtain ⟨A3, c3, rfl, le3, hC3⟩ := Kd.R_reads hr3
    have hml : ((l.filter fullV).map txtV).length ≤ 1000 := by rw [List.length_map]; exact Nat.le_trans (List.length_filter_le _ _) HL.out
    have HSR := Lib.hid (sorted_call ((l.filter fullV).map txtV) A3 c3 w3 hml hC3)
    have HC3 := Lib.hid (Kd.C_below HC2.out hb3)
    obtain ⟨m, hm⟩ : ∃ m, m = (l.filter fullV).map txtV := ⟨_, rfl⟩
    rw [← hm] at HSR HS2 hml ⊢
    have HML := Lib.hid hml
    clear hb3 HSA HB2 hr3 hC3 le3 HC2 hm HS HL hml
    go_wp2_with fail
    refine HSR.out.mono ?_
    rintro e w4 ⟨u4, zs, rfl, hr4, hp4, hq4, hb4⟩
    have HB4 := Lib.hid (HB3.out.trans (hb4.mono HB3.out.size))
    have HC4 := Lib.hid (Kd.C_below HC3.out hb4)
    obtain rfl := sort_unique HS2.out ⟨hp4, hq4⟩
    obtain ⟨A4, c4, rfl, le4, hC4⟩ := Kd.R_reads hr4
    have HSM := Lib.hid (sameTexts_call ys A2 A4 c2 c4 w4 (by rw [HS2.out.1.length_eq]; exact HML.out) HC4.out hC4)
    clear hb4 HSR HB3 hr4 hp4 hq4 hC4 le4 HC3 HC4 HML
    go_wp2_with fail
    refine HSM.out.mono ?_
    rintro e w5 ⟨rfl, hb5⟩
    have HB5 := Lib.hid (HB4.out.trans (hb5.mono HB4.out.size))
    clear hb5 HSM HB4 HS2
    go_wp2_with fail
    have hrow : Kd.string.C (w5.alloc (.cells #[.string ⟨#[97]⟩] 9)) (some ⟨w5.heap.size, 0, none⟩) [(⟨#[97]⟩ : ByteArray)].length [⟨#[97]⟩] := by
      obtain ⟨A', c', he, _, h⟩ := Kd.R_reads (d := Kd.string) (e := 9) (base := w5.heap.size) (ok := fun _ => True) (xs := [(⟨#[97]⟩ : ByteArray)]) (v := .slice (some ⟨w5.heap.size, 0, none⟩) 1 1) (w := w5.alloc (.cells #[.string ⟨#[97]⟩] 9)) ⟨fun _ _ => trivial, OwnRow.lit (inner := [.string ⟨#[97]⟩]) w5 w5.heap.size (Reps.snoc (Reps.none _ _) (show Kd.string.M _ _ _ ⟨#[97]⟩ [.string ⟨#[97]⟩] from rfl) rfl) (Nat.le_refl _) (by decide)⟩
      injection he with hA _ _
      subst hA
      exact h
    refine (values9_call [⟨#[97]⟩] (some ⟨w5.heap.size, 0, none⟩) 1 _ (by decide) hrow).mono ?_
    rintro e w6 ⟨u6, rfl, hr6, hb6⟩
    obtain ⟨A6, c6, rfl, le6, hC6⟩ := Kd.R_reads hr6
    have HB6 := Lib.hid (HB5.out.trans ((((Below.refl w5.heap.size w5).alloc (Nat.le_refl _) _).trans (hb6.mono (by simp))).mono HB5.out.size))
    have HC2 := Lib.hid (implSortAlpha (([⟨#[97]⟩] : List ByteArray).map textV) A6 c6 w6 (fun x hx => by
      obtain ⟨s, hs, rfl⟩ := List.mem_map.1 hx
      exact textV_simp (by simp at hs; subst hs; decide)) (by decide) hC6 (HT.out.below HB6.out))
    rw [texts_full] at HC2
    clear hr6 hb6 hC6 le6 hrow HB5 HT HA HW
    go_wp2_with fail
    refine HC2.out.mono ?_
    rintro e w7 ⟨u7, vs, rfl, hr7, hs7, hb7⟩
    have HB7 := Lib.hid (HB6.out.trans (hb7.mono HB6.out.size))
    obtain ⟨A7, c7, rfl, le7, hC7⟩ := Kd.R_reads hr7
    have hlen : vs.length = 1 := hs7.1.length_eq
    rw [hlen]
    clear hb7 HC2 hr7 hs7 hC7 le7 hlen
    go_wp2
    go_ret
    exact ⟨rfl, HB7.out⟩
end Go.Proofs.YtgjcejgcljjdhaaGreatDoor.P
