/- FnReverse holds of every list. -/
import Derived.Test.YtlefdkemgfjieaaR3
set_option linter.unusedVariables false
set_option linter.unusedSimpArgs false
namespace Go.Proofs.Ytlefdkemgfjieaa.P
open Go.RowKit Go.Proofs.YtlefdkemgfjieaaW.PrintWords Go.Proofs.YtlefdkemgfjieaaW.PrintLast Go.Proofs.YtlefdkemgfjieaaW.PrintMore
attribute [local go_sem] run_store_float

theorem norm_norm : ∀ (n : Nat) (x : S26), normN n (normN n x) = normN n x
  | 0, x => rfl
  | n + 1, x => by
    have h : ∀ y, normN n (normN n y) = normN n y := norm_norm n
    show (⟨x.f0, x.f1, if x.f0 = 4 then (if x.f0 = 4 then x.f2 else 0) else 0, x.f3, x.f4, (x.f5.map (normN n)).map (normN n)⟩ : S26) = ⟨x.f0, x.f1, if x.f0 = 4 then x.f2 else 0, x.f3, x.f4, x.f5.map (normN n)⟩
    have h2 : (x.f5.map (normN n)).map (normN n) = x.f5.map (normN n) := by
      rw [List.map_map]
      exact List.map_congr_left (fun y _ => h y)
    have h3 : (if x.f0 = 4 then (if x.f0 = 4 then x.f2 else 0) else 0) = if x.f0 = 4 then x.f2 else 0 := by split <;> rfl
    rw [h2, h3]
theorem lists_fit {l : List S26} (hr : ∀ i, i < l.length → rightN 8 (l.getD i z26)) (hw : ∀ y ∈ l, Whole64 y) : ∀ i, i < l.length → fitsN 8 (l.getD i z26) := fun i hi =>
  right_fits (hr i hi) (hw _ (by rw [List.getD_eq_getElem?_getD, List.getElem?_eq_getElem hi]; exact List.getElem_mem hi))
theorem rev_right {l : List S26} (hr : ∀ i, i < l.length → rightN 8 (l.getD i z26)) : ∀ i, i < l.reverse.length → rightN 8 (l.reverse.getD i z26) := by
  intro i hi
  have hi2 : i < l.length := by simpa using hi
  have h := hr (l.length - 1 - i) (by omega)
  rw [List.getD_eq_getElem?_getD, List.getElem?_reverse hi2, ← List.getD_eq_getElem?_getD]
  exact h
theorem norm_fit {n : Nat} {l : List S26} (hf : ∀ i, i < l.length → fitsN n (l.getD i z26)) : ∀ i, i < (l.map (normN n)).length → fitsN n ((l.map (normN n)).getD i z26) := by
  intro i hi
  have hi2 : i < l.length := by simpa using hi
  have h := fits_norm (hf i hi2)
  simpa [hi2] using h
theorem twice_rev (l : List S26) : ((l.reverse.map (normN 8)).reverse.map (normN 8)) = l.map (normN 8) := by
  have h0 : (l.reverse.map (normN 8)).reverse = l.map (normN 8) := by rw [List.map_reverse, List.reverse_reverse]
  rw [h0, List.map_map]
  exact List.map_congr_left (fun y _ => norm_norm 8 y)
set_option maxHeartbeats 3200000 in
set_option maxRecDepth 100000 in
theorem fnReverse (l : List S26) (A : Option Addr) (c : Nat) (w : World) (hw : ∀ y ∈ l, Whole64 y) (hA : k26.C w A l.length l) (hc : l.length ≤ c) :
    Calls Try.prog 7 #[.slice A l.length c] w fun e w' => e = .returned (.bool true) ∧ Below w.heap.size w w' := by
  obtain ⟨r1, ht1, hr1⟩ := AllRight_con l A c
  have HW := Lib.hid hw
  have HA := Lib.hid hA
  have HT1 := Lib.hid ht1
  have HR1 := Lib.hid (hr1 w hA hc)
  clear hw hA ht1 hr1
  by_cases hk0 : 2147483647 < (l.length : Int)
  · have hd0 : decide (2147483647 < (l.length : Int)) = true := decide_eq_true hk0
    go_enter Try.func7, Try.ntmps7
    go_wp2
    go_ret
    exact ⟨rfl, Below.refl _ _⟩
  have hd0 : decide (2147483647 < (l.length : Int)) = false := decide_eq_false hk0
  go_enter Try.func7, Try.ntmps7
  go_wp2_with fail
  refine HR1.out.mono ?_
  rintro e w1 ⟨rfl, hb1⟩
  have HB1 := Lib.hid hb1
  clear hb1 HR1 hk0 hd0
  cases r1
  · go_wp2
    go_ret
    exact ⟨rfl, HB1.out⟩
  obtain ⟨hl60, hright⟩ := HT1.out rfl
  have hfit := lists_fit hright HW.out
  have HREV := Lib.hid (implReverse_call l A c w1 hfit (by omega) (Kd.C_below HA.out HB1.out))
  have HRIGHT := Lib.hid hright
  have HFIT := Lib.hid hfit
  have HL := Lib.hid hl60
  clear hright hfit HT1 hl60
  go_wp2_with fail
  refine HREV.out.mono ?_
  rintro e w2 ⟨v2, rfl, hr2, hb2⟩
  have HB2 := Lib.hid (HB1.out.trans (hb2.mono HB1.out.size))
  obtain ⟨A2, c2, rfl, hc2, hC2⟩ := Kd.R_reads hr2
  have HC2 := Lib.hid hC2
  have hlen2 : (l.reverse.map (normN 8)).length = l.length := by simp
  have HREV2 := Lib.hid (implReverse_call (n := 8) (l.reverse.map (normN 8)) A2 c2 w2 (norm_fit (rev_fits HFIT.out)) (by rw [hlen2]; have := HL.out; omega) hC2)
  rw [twice_rev] at HREV2
  clear hr2 hb2 hC2 HREV hlen2
  obtain ⟨la, hla⟩ : ∃ la, la = l.reverse.map (normN 8) := ⟨_, rfl⟩
  rw [← hla] at HC2 HREV2 hc2 ⊢
  have HLA := Lib.hid hla
  clear hla
  go_wp2_with fail
  refine HREV2.out.mono ?_
  rintro e w3 ⟨v3, rfl, hr3, hb3⟩
  have HB3 := Lib.hid (HB2.out.trans (hb3.mono HB2.out.size))
  obtain ⟨A3, c3, rfl, hc3, hC3⟩ := Kd.R_reads hr3
  have HC3 := Lib.hid hC3
  have HC2b := Lib.hid (Kd.C_below HC2.out hb3)
  have HTU := Lib.hid (Turned_call l A c w3 (by have := HL.out; omega) (Kd.C_below HA.out HB3.out) hc)
  clear hr3 hb3 hC3 HREV2 HC2
  go_wp2_with fail
  refine HTU.out.mono ?_
  rintro e w4 ⟨v4, rfl, hr4, hb4⟩
  have HB4 := Lib.hid (HB3.out.trans (hb4.mono HB3.out.size))
  obtain ⟨A4, c4, rfl, hc4, hC4⟩ := hr4.reads hb4
  have hS1 := sameList_all 8 la l.reverse A2 c2 A4 c4 w4 (by rw [HLA.out]; exact norm_fit (rev_fits HFIT.out)) (by rw [HLA.out]; have := HL.out; simp; omega) (Kd.C_below HC2b.out hb4) hc2 hC4 hc4
  have HP1 := Lib.hid (show SameListP 8 la l.reverse by rw [HLA.out]; exact sameList_norm (rev_right HRIGHT.out))
  have HC3b := Lib.hid (Kd.C_below HC3.out hb4)
  simp only [List.length_reverse] at hS1
  simp only [List.length_map] at hc3
  have HS1 := Lib.hid hS1
  clear hr4 hb4 hC4 hS1 HTU HC3 HC2b hc4
  simp only [List.length_reverse]
  go_wp2_with fail
  refine HS1.out.mono ?_
  rintro e w5 ⟨r5, rfl, hq5, hb5⟩
  obtain rfl : r5 = true := hq5.2 HP1.out
  have HB5 := Lib.hid (HB4.out.trans (hb5.mono HB4.out.size))
  have hS2 := sameList_all 8 (l.map (normN 8)) l A3 c3 A c w5 (norm_fit HFIT.out) (by have := HL.out; simp; omega) (Kd.C_below HC3b.out hb5) (by simpa using hc3) (Kd.C_below HA.out HB5.out) hc
  have HP2 := Lib.hid (show SameListP 8 (l.map (normN 8)) l from sameList_norm HRIGHT.out)
  simp only [List.length_map] at hS2
  have HS2 := Lib.hid hS2
  clear hq5 hb5 hS2 HS1 HP1 HC3b
  go_wp2_with fail
  refine HS2.out.mono ?_
  rintro e w6 ⟨r6, rfl, hq6, hb6⟩
  obtain rfl : r6 = true := hq6.2 HP2.out
  have HB6 := Lib.hid (HB5.out.trans (hb6.mono HB5.out.size))
  clear hq6 hb6 HS2 HP2
  go_wp2
  go_ret
  exact ⟨rfl, HB6.out⟩
end Go.Proofs.Ytlefdkemgfjieaa.P
