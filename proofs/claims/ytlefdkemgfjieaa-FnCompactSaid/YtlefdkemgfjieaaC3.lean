/- spec.Compact; FnCompact holds of every list. -/
import Derived.Test.YtlefdkemgfjieaaC2
import Derived.Test.YtlefdkemgfjieaaR4
set_option linter.unusedVariables false
set_option linter.unusedSimpArgs false
namespace Go.Proofs.Ytlefdkemgfjieaa.P
open Go.RowKit Go.Proofs.YtlefdkemgfjieaaW.PrintWords Go.Proofs.YtlefdkemgfjieaaW.PrintLast Go.Proofs.YtlefdkemgfjieaaW.PrintMore
attribute [local go_sem] run_store_float

set_option maxHeartbeats 3200000 in
set_option maxRecDepth 100000 in
theorem specCompact_call (l : List S26) (A : Option Addr) (c : Nat) (w : World) (hl : l.length ≤ 1000) (hA : k26.C w A l.length l) (hc : l.length ≤ c) :
    Calls Try.prog 33 #[.slice A l.length c] w fun e w' => ∃ v, e = .returned v ∧ Row0 w w.heap.size w' v (l.filter fullB) ∧ Below w.heap.size w w' := by
  have HA := Lib.hid hA
  clear hA
  go_enter Try.func33, Try.ntmps33
  go_wp2
  go_loopw [3, 4] (fun v i wr => ∃ (k : Nat) (A3 : Option Addr) (c3 : Nat) (xs : List S26), i = .int .i64 k ∧ v = .slice A3 xs.length c3 ∧ k ≤ l.length ∧ Hid (xs = (l.take k).filter fullB) ∧ Hid (xs.length ≤ k) ∧ Hid (Row0 w w.heap.size wr v xs) ∧ Hid (Below w.heap.size w wr)) (fun _ i _ => l.length - (intOf i).toNat)
  case atStart => exact ⟨0, none, 0, [], rfl, rfl, Nat.zero_le _, Lib.hid (by simp), Lib.hid (Nat.le_refl _), Lib.hid (OwnRow.none_ _ _ _ _ _), Lib.hid (Below.refl _ _)⟩
  case round =>
    obtain ⟨k, A3, c3, xs, rfl, rfl, hk, hxs, hxl, hR, hB⟩ := hrel
    by_cases ck : k < l.length
    · obtain ⟨ad, A4, c4, A5, c5, hAd, e0, e1, e2, e3, e4, e5, l4, g4, l5, g5⟩ := at_T26 HA.out (k : Int) (by omega) (by omega)
      subst hAd
      simp only [Int.toNat_natCast] at e0 e1 e2 e3 e4 e5
      have q0 := (hB.out.cell (cell_ltR e0)).trans e0
      have q1 := (hB.out.cell (cell_ltR e1)).trans e1
      have q2 := (hB.out.cell (cell_ltR e2)).trans e2
      have q3 := (hB.out.cell (cell_ltR e3)).trans e3
      have q4 := (hB.out.cell (cell_ltR e4)).trans e4
      have q5 := (hB.out.cell (cell_ltR e5)).trans e5
      have HKx := Lib.hid (k26_mk w _ l4 g4 l5 g5)
      have HRX := Lib.hid (show RowsAt (rd_T26 l (k : Int)) A4 c4 A5 c5 w from ⟨g4, l4, g5, l5⟩)
      have ci0 : (0 : Int) ≤ (k : Int) := by omega
      have ci1 : (k : Int) < (l.length : Int) := by omega
      have HTF := Lib.hid (take_filter l fullB k ck)
      have hgd : rd_T26 l (k : Int) = l[k] := by simp [rd_T26, ck]
      have HE0 := Lib.hid e0
      have HE1 := Lib.hid e1
      have HE2 := Lib.hid e2
      have HE3 := Lib.hid e3
      have HE4 := Lib.hid e4
      have HE5 := Lib.hid e5
      rw [hgd] at HE0 HE1 HE2 HE3 HE4 HE5 HRX HKx q0 q1 q2 q3 q4 q5
      clear l4 g4 l5 g5 e0 e1 e2 e3 e4 e5 hgd
      generalize l[k] = x at *
      have HEM := Lib.hid (specEmpty_con x A4 c4 A5 c5 wr (HRX.out.below hB.out))
      unfold aggOf at HEM
      go_wp2_with fail
      refine HEM.out.mono ?_
      rintro e w2 ⟨rfl, hb2⟩
      have HB2 := Lib.hid (hB.out.trans (hb2.mono hB.out.size))
      have HR2 := Lib.hid (OwnRow.below hR.out hb2)
      clear q0 q1 q2 q3 q4 q5 hb2 HEM hR hB
      cases he : emptyB x with
      | true =>
        have HX2 := Lib.hid (show xs = (l.take (k + 1)).filter fullB by rw [HTF.out, show fullB x = false by simp [fullB, he], ← hxs.out]; simp)
        clear he HTF hxs
        go_wp2
        go_roundw
        case rel => exact ⟨k + 1, A3, c3, xs, by go_num, rfl, by omega, HX2, Lib.hid (by have := hxl.out; omega), HR2, HB2⟩
        case measure => simp [intOf]; omega
      | false =>
        have HX2 := Lib.hid (show xs ++ [x] = (l.take (k + 1)).filter fullB by rw [HTF.out, show fullB x = true by simp [fullB, he], ← hxs.out]; simp)
        clear he HTF hxs
        have q0 := (HB2.out.cell (cell_ltR HE0.out)).trans HE0.out
        have q1 := (HB2.out.cell (cell_ltR HE1.out)).trans HE1.out
        have q2 := (HB2.out.cell (cell_ltR HE2.out)).trans HE2.out
        have q3 := (HB2.out.cell (cell_ltR HE3.out)).trans HE3.out
        have q4 := (HB2.out.cell (cell_ltR HE4.out)).trans HE4.out
        have q5 := (HB2.out.cell (cell_ltR HE5.out)).trans HE5.out
        go_wp2_with (at_builtin; refine OwnRow.append (w0 := w) w.heap.size rfl _ _ 24 26 (.agg #[(.int .i64 0), (.int .i64 0), (.float .f64 0), (.string ⟨#[]⟩), (.slice none 0 0), (.slice none 0 0)]) 6 88 rfl Try.underlying24 info_val rfl (by decide) (by decide) (.slice A3 xs.length c3) xs x [.int .i64 x.f0, .int .i64 x.f1, .float .f64 x.f2, .string x.f3, .slice A4 x.f4.length c4, .slice A5 x.f5.length c5] rfl rfl HKx.out rfl (fun u hu => k26.K_one HKx.out u hu) HR2.out HB2.out HB2.out.size (by have := hxl.out; omega) ?_; intro v1 w3 h1 hb3 hg3 hat3)
        obtain ⟨A6, c6, rfl, _⟩ := OwnRow.slice_ h1
        have HR3 := Lib.hid (show Row0 w w.heap.size w3 (.slice A6 (xs ++ [x]).length c6) (xs ++ [x]) from h1)
        have HB3 := Lib.hid hb3
        clear h1 hb3 hg3 hat3
        go_wp2
        go_roundw
        case rel => exact ⟨k + 1, A6, c6, xs ++ [x], by go_num, rfl, by omega, HX2, Lib.hid (by have := hxl.out; simp; omega), HR3, HB3⟩
        case measure => simp [intOf]; omega
    · have hkn : k = l.length := by omega
      have HR2 := Lib.hid (show Row0 w w.heap.size wr (.slice A3 xs.length c3) (l.filter fullB) by
        have h1 : l.filter fullB = xs := by rw [hxs.out, hkn, List.take_length]
        rw [h1]
        exact hR.out)
      subst hkn
      clear hR
      go_wp2
      go_ret
      exact ⟨_, rfl, HR2.out, hB.out⟩
set_option maxHeartbeats 3200000 in
set_option maxRecDepth 100000 in
theorem fnCompact (l : List S26) (A : Option Addr) (c : Nat) (w : World) (hw : ∀ y ∈ l, Whole64 y) (hA : k26.C w A l.length l) (hc : l.length ≤ c) :
    Calls Try.prog 9 #[.slice A l.length c] w fun e w' => e = .returned (.bool true) ∧ Below w.heap.size w w' := by
  obtain ⟨r1, ht1, hr1⟩ := AllRight_con l A c
  have HW := Lib.hid hw
  have HA := Lib.hid hA
  have HT1 := Lib.hid ht1
  have HR1 := Lib.hid (hr1 w hA hc)
  clear hw hA ht1 hr1
  by_cases hk0 : 2147483647 < (l.length : Int)
  · have hd0 : decide (2147483647 < (l.length : Int)) = true := decide_eq_true hk0
    go_enter Try.func9, Try.ntmps9
    go_wp2
    go_ret
    exact ⟨rfl, Below.refl _ _⟩
  have hd0 : decide (2147483647 < (l.length : Int)) = false := decide_eq_false hk0
  go_enter Try.func9, Try.ntmps9
  go_wp2_with fail
  refine HR1.out.mono ?_
  rintro e w1 ⟨rfl, hb1⟩
  have HB1 := Lib.hid hb1
  clear hb1 HR1 hk0 hd0
  cases r1
  · go_wp2
    go_ret
    exact ⟨rfl, HB1.out⟩
  obtain ⟨hl60, hright⟩ := HT1.out rfl
  have hfit := lists_fit hright HW.out
  have HREV := Lib.hid (implCompact_call l A c w1 hfit (by omega) (Kd.C_below HA.out HB1.out))
  have HRIGHT := Lib.hid hright
  have HFIT := Lib.hid hfit
  have HL := Lib.hid hl60
  clear hright hfit HT1 hl60
  go_wp2_with fail
  refine HREV.out.mono ?_
  rintro e w2 ⟨v2, rfl, hr2, hb2⟩
  have HB2 := Lib.hid (HB1.out.trans (hb2.mono HB1.out.size))
  obtain ⟨A2, c2, rfl, hc2, hC2⟩ := Kd.R_reads hr2
  have HC2 := Lib.hid hC2
  have HTU := Lib.hid (specCompact_call l A c w2 (by have := HL.out; omega) (Kd.C_below HA.out HB2.out) hc)
  clear hr2 hb2 hC2 HREV
  obtain ⟨la, hla⟩ : ∃ la, la = (l.filter fullB).map (normN 8) := ⟨_, rfl⟩
  rw [← hla] at HC2 hc2 ⊢
  have HLA := Lib.hid hla
  clear hla
  obtain ⟨lb, hlb⟩ : ∃ lb, lb = l.filter fullB := ⟨_, rfl⟩
  rw [← hlb] at HTU
  have HLB := Lib.hid hlb
  clear hlb
  go_wp2_with fail
  refine HTU.out.mono ?_
  rintro e w4 ⟨v4, rfl, hr4, hb4⟩
  have HB4 := Lib.hid (HB2.out.trans (hb4.mono HB2.out.size))
  obtain ⟨A4, c4, rfl, hc4, hC4⟩ := hr4.reads hb4
  have hS1 := sameList_all 8 la lb A2 c2 A4 c4 w4 (by rw [HLA.out]; exact norm_fit (filter_all fullB HFIT.out)) (by rw [HLA.out, List.length_map]; have := HL.out; have := List.length_filter_le fullB l; omega) (Kd.C_below HC2.out hb4) hc2 hC4 hc4
  have HP1 := Lib.hid (show SameListP 8 la lb by rw [HLA.out, HLB.out]; exact sameList_norm (filter_all fullB HRIGHT.out))
  have HS1 := Lib.hid hS1
  clear hr4 hb4 hC4 hS1 HTU HC2 hc4
  go_wp2_with fail
  refine HS1.out.mono ?_
  rintro e w5 ⟨r5, rfl, hq5, hb5⟩
  obtain rfl : r5 = true := hq5.2 HP1.out
  have HB5 := Lib.hid (HB4.out.trans (hb5.mono HB4.out.size))
  clear hq5 hb5 HS1 HP1
  go_wp2
  go_ret
  exact ⟨rfl, HB5.out⟩
end Go.Proofs.Ytlefdkemgfjieaa.P
