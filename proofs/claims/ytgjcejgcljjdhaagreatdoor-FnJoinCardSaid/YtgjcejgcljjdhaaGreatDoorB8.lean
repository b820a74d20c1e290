/- FnJoin holds. -/
import Derived.Test.YtgjcejgcljjdhaaGreatDoorB7
set_option linter.unusedVariables false
set_option linter.unusedSimpArgs false
namespace Go.Proofs.YtgjcejgcljjdhaaGreatDoor.P
open Go.RowKit Go.Proofs.YtgjcejgcljjdhaaGreatDoorW.PrintWords Go.Proofs.YtgjcejgcljjdhaaGreatDoorW.PrintLast Go.Proofs.YtgjcejgcljjdhaaGreatDoorW.PrintMore
attribute [local go_sem] run_store_float

set_option maxHeartbeats 3200000 in
set_option maxRecDepth 100000 in
theorem fnJoin (sep : ByteArray) (l : List S36) (A : Option Addr) (c : Nat) (w : World) (hsep0 : sep.size ≤ 140737488351232) (hw : ∀ y ∈ l, Whole64 y) (hA : k36.C w A l.length l) (hc : l.length ≤ c) (hT : TabsW w) :
    Calls Tryz.prog 3 #[.string sep, .slice A l.length c] w fun e w' => e = .returned (.bool true) ∧ Below w.heap.size w w' := by
  have HW := Lib.hid (show ∀ y ∈ l, -9223372036854775808 ≤ y.f1 ∧ y.f1 ≤ 9223372036854775807 from fun y hy => by
    cases hw y hy with
    | mk _ h1 h2 _ => exact ⟨h1, h2⟩)
  have HA := Lib.hid hA
  have HT := Lib.hid hT
  have HB := Lib.hid (Below.refl w.heap.size w)
  clear hw hA hT
  by_cases hz0 : 2147483647 < (sep.size : Int)
  · have hd0 : decide (2147483647 < (sep.size : Int)) = true := decide_eq_true hz0
    go_enter Tryz.func3, Tryz.ntmps3
    go_wp2
    go_ret
    exact ⟨rfl, HB.out⟩
  have hdz : decide (2147483647 < (sep.size : Int)) = false := decide_eq_false hz0
  have hsep : sep.size ≤ 2147483647 := by omega
  have HSEP := Lib.hid hsep
  clear hz0 hsep0
  by_cases hk0 : 2147483647 < (l.length : Int)
  · have hd0 : decide (2147483647 < (l.length : Int)) = true := decide_eq_true hk0
    go_enter Tryz.func3, Tryz.ntmps3
    go_wp2
    go_ret
    exact ⟨rfl, HB.out⟩
  have hd0 : decide (2147483647 < (l.length : Int)) = false := decide_eq_false hk0
  have HSI := Lib.hid (simple_call l A c w (by omega) HA.out)
  go_enter Tryz.func3, Tryz.ntmps3
  go_wp2_with fail
  refine HSI.out.mono ?_
  rintro e w1 ⟨r, rfl, hr, hb1⟩
  have HB1 := Lib.hid hb1
  cases r with
  | false =>
    clear hr hb1 HSI
    go_wp2
    go_ret
    exact ⟨rfl, HB1.out⟩
  | true =>
    obtain ⟨hl20, hg⟩ := hr (by trivial)
    have hs : ∀ x ∈ l, simpV x = true := fun x hx => good_simp (hg x hx) (HW.out x hx).1 (HW.out x hx).2
    have HS := Lib.hid hs
    have HL := Lib.hid (show l.length ≤ 1000 by omega)
    obtain ⟨b9, h9⟩ := text9_call sep HSEP.out
    have H9 := Lib.hid h9
    have HBA := Lib.hid (((Below.refl w1.heap.size w1).alloc (Nat.le_refl _) (.cells #[.string sep] 9)))
    clear hr hb1 HSI hg hl20 hk0 hd0 hs h9 hdz hsep
    go_wp2_with fail
    refine (H9.out _ _ _ (by rw [blk_cell (heap_alloc_new w1 (.cells #[.string sep] 9)) 0]; rfl)).mono ?_
    rintro e w1b ⟨rfl, hb1b⟩
    have HB1b := Lib.hid (HB1.out.trans ((HBA.out.trans (hb1b.mono (by simp))).mono HB1.out.size))
    clear hb1b H9 HBA HB1
    cases b9 with
    | false =>
      go_wp2
      go_ret
      exact ⟨rfl, HB1b.out⟩
    | true =>
    have HB1 := HB1b
    have HCAT := Lib.hid (implJoin sep HSEP.out l A c w1b HS.out HL.out (Kd.C_below HA.out HB1.out) (HT.out.below HB1.out))
    clear HB1b
    go_wp2_with fail
    refine HCAT.out.mono ?_
    rintro e w2 ⟨rfl, hb2⟩
    have HB2 := Lib.hid (HB1.out.trans (hb2.mono HB1.out.size))
    have HSA := Lib.hid (shownAll_call l A c w2 HS.out HL.out (Kd.C_below HA.out HB2.out))
    clear hb2 HCAT HB1
    go_wp2_with fail
    refine HSA.out.mono ?_
    rintro e w3 ⟨u3, rfl, hr3, hb3⟩
    have HB3 := Lib.hid (HB2.out.trans (hb3.mono HB2.out.size))
    obtain ⟨A3, c3, rfl, le3, hC3⟩ := Kd.R_reads hr3
    have hml : ((l.filter fullV).map txtV).length ≤ 1000 := by rw [List.length_map]; exact Nat.le_trans (List.length_filter_le _ _) HL.out
    have HJO := Lib.hid (joined_call sep ((l.filter fullV).map txtV) A3 c3 w3 hml (txts_size (fun x hx => (filt_simp HS.out x hx).1)) HSEP.out hC3)
    clear hb3 HSA HB2 hr3 hC3 hml le3
    obtain ⟨m, hm⟩ : ∃ m, m = (l.filter fullV).map txtV := ⟨_, rfl⟩
    rw [← hm] at HJO ⊢
    clear hm
    go_wp2_with fail
    refine HJO.out.mono ?_
    rintro e w4 ⟨rfl, hb4⟩
    have HB4 := Lib.hid (HB3.out.trans (hb4.mono HB3.out.size))
    have HTA := Lib.hid (HT.out.below HB4.out)
    clear hb4 HJO HB3 HS HL
    go_wp2_with fail
    have hrow : Kd.string.C (w4.alloc (.cells #[.string ⟨#[97]⟩, .string ⟨#[98]⟩] 9)) (some ⟨w4.heap.size, 0, none⟩) [(⟨#[97]⟩ : ByteArray), ⟨#[98]⟩].length [⟨#[97]⟩, ⟨#[98]⟩] := by
      obtain ⟨A', c', he, _, h⟩ := Kd.R_reads (d := Kd.string) (e := 9) (base := w4.heap.size) (ok := fun _ => True) (xs := [(⟨#[97]⟩ : ByteArray), ⟨#[98]⟩]) (v := .slice (some ⟨w4.heap.size, 0, none⟩) 2 2) (w := w4.alloc (.cells #[.string ⟨#[97]⟩, .string ⟨#[98]⟩] 9)) ⟨fun _ _ => trivial, OwnRow.lit (inner := [.string ⟨#[97]⟩, .string ⟨#[98]⟩]) w4 w4.heap.size (Reps.snoc (Reps.snoc (Reps.none _ _) (show Kd.string.M _ _ _ ⟨#[97]⟩ [.string ⟨#[97]⟩] from rfl) rfl) (show Kd.string.M _ _ _ ⟨#[98]⟩ [.string ⟨#[98]⟩] from rfl) rfl) (Nat.le_refl _) (by decide)⟩
      injection he with hA _ _
      subst hA
      exact h
    refine (values9_call [⟨#[97]⟩, ⟨#[98]⟩] (some ⟨w4.heap.size, 0, none⟩) 2 _ (by decide) hrow).mono ?_
    rintro e w5 ⟨u5, rfl, hr5, hb5⟩
    obtain ⟨A5, c5, rfl, le5, hC5⟩ := Kd.R_reads hr5
    have HB5 := Lib.hid (HB4.out.trans ((((Below.refl w4.heap.size w4).alloc (Nat.le_refl _) _).trans (hb5.mono (by simp))).mono HB4.out.size))
    have HC2 := Lib.hid (implJoin ⟨#[45]⟩ (by decide) (([⟨#[97]⟩, ⟨#[98]⟩] : List ByteArray).map textV) A5 c5 w5 (fun x hx => by
      obtain ⟨s, hs, rfl⟩ := List.mem_map.1 hx
      exact textV_simp (by simp at hs; rcases hs with rfl | rfl <;> decide)) (by decide) hC5 (HT.out.below HB5.out))
    rw [texts_full] at HC2
    have hab : joinB [⟨#[97]⟩, ⟨#[98]⟩] ⟨#[45]⟩ = ⟨#[97, 45, 98]⟩ := by apply ba_ext; decide +kernel
    rw [hab] at HC2
    clear hr5 hb5 hC5 le5 hrow hab HB4 HTA
    go_wp2_with fail
    refine HC2.out.mono ?_
    rintro e w6 ⟨rfl, hb6⟩
    have HB6 := Lib.hid (HB5.out.trans (hb6.mono HB5.out.size))
    clear hb6 HC2
    go_wp2
    go_ret
    exact ⟨rfl, HB6.out⟩
end Go.Proofs.YtgjcejgcljjdhaaGreatDoor.P
