/- FnWithout holds of every two lists. -/
import Derived.Test.YtffkinonnkbcpaaWo2
set_option linter.unusedVariables false
set_option linter.unusedSimpArgs false
namespace Go.Proofs.Ytffkinonnkbcpaa.P
open Go.RowKit Go.Proofs.YtffkinonnkbcpaaW.PrintWords Go.Proofs.YtffkinonnkbcpaaW.PrintLast Go.Proofs.YtffkinonnkbcpaaW.PrintMore
attribute [local go_sem] run_store_float

set_option maxHeartbeats 3200000 in
set_option maxRecDepth 100000 in
theorem fnWithout (l om : List S31) (A : Option Addr) (c : Nat) (B : Option Addr) (d : Nat) (w : World) (hw : ∀ y ∈ l, Whole64 y) (hwo : ∀ y ∈ om, Whole64 y) (hA : k31.C w A l.length l) (hc : l.length ≤ c) (hB : k31.C w B om.length om) (hd : om.length ≤ d) :
    Calls Try.prog 3 #[.slice A l.length c, .slice B om.length d] w fun e w' => e = .returned (.bool true) ∧ Below w.heap.size w w' := by
  obtain ⟨f, hff⟩ : ∃ f : S31 → Bool, ∀ x, f x = true ↔ ¬ hasP 8 om x := ⟨fun x => @decide _ (Classical.propDecidable (¬ hasP 8 om x)), fun x => @decide_eq_true_iff _ (Classical.propDecidable (¬ hasP 8 om x))⟩
  obtain ⟨r1, ht1, hr1⟩ := AllFin_con l A c
  obtain ⟨r2, ht2, hr2⟩ := AllFin_con om B d
  have HFF := Lib.hid hff
  have HW := Lib.hid hw
  have HWO := Lib.hid hwo
  have HA := Lib.hid hA
  have HBO := Lib.hid hB
  have HT1 := Lib.hid ht1
  have HT2 := Lib.hid ht2
  have HR1 := Lib.hid (hr1 w hA hc)
  have HR2 := Lib.hid (fun (W : World) (hb : Below w.heap.size w W) => hr2 W (Kd.C_below hB hb) hd)
  clear hw hwo hA hB ht1 ht2 hr1 hr2 hff
  by_cases hk0 : 2147483647 < (l.length : Int)
  · have hd0 : decide (2147483647 < (l.length : Int)) = true := decide_eq_true hk0
    go_enter Try.func3, Try.ntmps3
    go_wp2
    go_ret
    exact ⟨rfl, Below.refl _ _⟩
  have hd0 : decide (2147483647 < (l.length : Int)) = false := decide_eq_false hk0
  by_cases hk1 : 2147483647 < (om.length : Int)
  · have hd1 : decide (2147483647 < (om.length : Int)) = true := decide_eq_true hk1
    go_enter Try.func3, Try.ntmps3
    go_wp2
    go_ret
    exact ⟨rfl, Below.refl _ _⟩
  have hd1 : decide (2147483647 < (om.length : Int)) = false := decide_eq_false hk1
  go_enter Try.func3, Try.ntmps3
  go_wp2_with fail
  refine HR1.out.mono ?_
  rintro e w1 ⟨rfl, hb1⟩
  have HB1 := Lib.hid hb1
  clear hb1 HR1 hk0 hd0 hk1 hd1
  cases r1
  · go_wp2
    go_ret
    exact ⟨rfl, HB1.out⟩
  have HR2C := Lib.hid (HR2.out w1 HB1.out)
  go_wp2_with fail
  refine HR2C.out.mono ?_
  rintro e w2 ⟨rfl, hb2⟩
  have HB2 := Lib.hid (HB1.out.trans (hb2.mono HB1.out.size))
  clear hb2 HR2 HR2C HB1
  cases r2
  · go_wp2
    go_ret
    exact ⟨rfl, HB2.out⟩
  obtain ⟨hl60, hright⟩ := HT1.out (by first | rfl | trivial)
  obtain ⟨hm60, hright2⟩ := HT2.out (by first | rfl | trivial)
  have hfit := lists_fit (fun i hi => (hright i hi).1) HW.out
  have hfit2 := lists_fit (fun i hi => (hright2 i hi).1) HWO.out
  have HREV := Lib.hid (implWithout_call f om HFF.out l A c B d w2 hright hfit (by omega) (fun i hi => (hright2 i hi).1) hfit2 (by omega) (Kd.C_below HA.out HB2.out) (Kd.C_below HBO.out HB2.out))
  have HRIGHT := Lib.hid (fun i hi => (hright i hi).1)
  have HFIT := Lib.hid hfit
  have HFIT2 := Lib.hid hfit2
  have HL := Lib.hid hl60
  have HM := Lib.hid hm60
  clear hright hright2 hfit hfit2 HT1 HT2 hl60 hm60
  go_wp2_with fail
  refine HREV.out.mono ?_
  rintro e w3 ⟨v2, rfl, hr3, hb3⟩
  have HB3 := Lib.hid (HB2.out.trans (hb3.mono HB2.out.size))
  obtain ⟨A2, c2, rfl, hc2, hC2⟩ := Kd.R_reads hr3
  have HC2 := Lib.hid hC2
  have HTU := Lib.hid (specWithout_call f om HFF.out l A c B d w3 (by have := HL.out; omega) (Kd.C_below HA.out HB3.out) hc HFIT2.out (by have := HM.out; omega) (Kd.C_below HBO.out HB3.out) hd)
  clear hr3 hb3 hC2 HREV HB2
  obtain ⟨la, hla⟩ : ∃ la, la = (l.filter f).map (normN 8) := ⟨_, rfl⟩
  rw [← hla] at HC2 hc2 ⊢
  have HLA := Lib.hid hla
  clear hla
  obtain ⟨lb, hlb⟩ : ∃ lb, lb = l.filter f := ⟨_, rfl⟩
  rw [← hlb] at HTU
  have HLB := Lib.hid hlb
  clear hlb
  go_wp2_with fail
  refine HTU.out.mono ?_
  rintro e w4 ⟨v4, rfl, hr4, hb4⟩
  have HB4 := Lib.hid (HB3.out.trans (hb4.mono HB3.out.size))
  obtain ⟨A4, c4, rfl, hc4, hC4⟩ := hr4.reads hb4
  have hS1 := sameList_all 8 la lb A2 c2 A4 c4 w4 (by rw [HLA.out]; exact norm_fit (filter_all f HFIT.out)) (by rw [HLA.out, List.length_map]; have := HL.out; have := List.length_filter_le f l; omega) (Kd.C_below HC2.out hb4) hc2 hC4 hc4
  have HP1 := Lib.hid (show SameListP 8 la lb by rw [HLA.out, HLB.out]; exact sameList_norm (filter_all f HRIGHT.out))
  have HS1 := Lib.hid hS1
  clear hr4 hb4 hC4 hS1 HTU HC2 hc4
  go_wp2_with fail
  refine HS1.out.mono ?_
  rintro e w5 ⟨r5, rfl, hq5, hb5⟩
  obtain rfl : r5 = true := hq5.2 HP1.out
  have HB5 := Lib.hid (HB4.out.trans (hb5.mono HB4.out.size))
  clear hq5 hb5 HS1 HP1
  go_wp2
  go_ret
  exact ⟨rfl, HB5.out⟩
end Go.Proofs.Ytffkinonnkbcpaa.P
