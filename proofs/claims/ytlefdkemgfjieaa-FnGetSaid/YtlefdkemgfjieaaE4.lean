/- FnGet holds of every value and text. -/
import Derived.Test.YtlefdkemgfjieaaE3
set_option linter.unusedVariables false
set_option linter.unusedSimpArgs false
namespace Go.Proofs.Ytlefdkemgfjieaa.P
open Go.RowKit Go.Proofs.YtlefdkemgfjieaaW.PrintWords Go.Proofs.YtlefdkemgfjieaaW.PrintLast Go.Proofs.YtlefdkemgfjieaaW.PrintMore
attribute [local go_sem] run_store_float

theorem six_heap {w : World} {g : Nat} {b0 b1 b2 b3 b4 b5 : Value} {t : TypeId} (h : w.heap[g]? = some (.cells #[b0, b1, b2, b3, b4, b5] t (0, 0))) (a0 a1 a2 a3 a4 a5 : Value) : (six w g a0 a1 a2 a3 a4 a5).heap[g]? = some (.cells #[a0, a1, a2, a3, a4, a5] t (0, 0)) :=
  blk_put (blk_put (blk_put (blk_put (blk_put (blk_put h 0 a0 rfl) 1 a1 rfl) 2 a2 rfl) 3 a3 rfl) 4 a4 rfl) 5 a5 rfl
theorem six_far {w : World} {g q : Nat} (h : q ≠ g) (a0 a1 a2 a3 a4 a5 : Value) : (six w g a0 a1 a2 a3 a4 a5).heap[q]? = w.heap[q]? := by
  unfold six
  rw [Below.heap_setCell _ _ _ _ h, Below.heap_setCell _ _ _ _ h, Below.heap_setCell _ _ _ _ h, Below.heap_setCell _ _ _ _ h, Below.heap_setCell _ _ _ _ h, Below.heap_setCell _ _ _ _ h]
theorem cell_lt {w : World} {a : Addr} {v : Value} (h : w.cell? a = some v) : a.block < w.heap.size := by
  unfold World.cell? at h
  cases hh : w.heap[a.block]? with
  | none => simp [hh] at h
  | some o => exact (Array.getElem?_eq_some_iff.1 hh).1
theorem dict_con (x : S26) (A4 : Option Addr) (c4 : Nat) (A5 : Option Addr) (c5 : Nat) : ∃ r : Bool, (r = true → x.f0 = 7 ∧ rightN 8 x) ∧ ∀ w, RowsAt x A4 c4 A5 c5 w → Calls Try.prog 17 #[aggOf x A4 c4 A5 c5] w fun e w' => e = .returned (.bool r) ∧ Below w.heap.size w w' := by
  have ht : Tot (fun k => laws_dictionary.f k x.f0 x.f1 x.f2 x.f3 x.f4 x.f5) (fun r => r = true → x.f0 = 7 ∧ rightN 8 x) := by
    unfold laws_dictionary.f
    exact Tot.ite (fun h => Tot.bind (Right_tot x) (fun r hr => Tot.ret (fun h1 => ⟨h, hr h1⟩))) (fun _ => Tot.ret (fun h => by cases h))
  obtain ⟨k, r, hk, hr⟩ := ht
  exact ⟨r, hr, fun w h => laws_dictionary.calls k _ _ _ _ A4 c4 _ A5 c5 _ r w h.1 h.2.1 h.2.2.1 h.2.2.2 (hk k (Nat.le_refl _))⟩
theorem At_con (x : S26) (key : ByteArray) (hA : Ascend x.f4) (hl : x.f4.length ≤ 1000) (A4 : Option Addr) (c4 : Nat) (A5 : Option Addr) (c5 : Nat) : ∃ (ri : Int) (rb : Bool), AtOk x.f4 key (ri, rb) ∧ ∀ w, RowsAt x A4 c4 A5 c5 w → Calls Try.prog 18 #[aggOf x A4 c4 A5 c5, .string key] w fun e w' => e = .returned (.tuple #[.int .i64 ri, .bool rb]) ∧ Below w.heap.size w w' := by
  obtain ⟨k, r, hk, hr⟩ := At_tot x key hA hl
  exact ⟨r.1, r.2, hr, fun w h => spec_At.calls k _ _ _ _ A4 c4 _ A5 c5 _ key _ _ w h.1 h.2.1 h.2.2.1 h.2.2.2 (hk k (Nat.le_refl _))⟩
theorem Text_con (w : World) : Calls Try.prog 19 #[.string ⟨#[]⟩] w fun e w' => ∃ (A4 : Option Addr) (c4 : Nat) (A5 : Option Addr) (c5 : Nat), e = .returned (.agg #[.int .i64 5, .int .i64 0, .float .f64 0, .string ⟨#[]⟩, .slice A4 0 c4, .slice A5 0 c5]) ∧ RowsAt noText A4 c4 A5 c5 w' ∧ Below w.heap.size w w' := by
  refine (spec_Text.calls ⟨#[]⟩ 5 0 0 ⟨#[]⟩ [] [] w rfl).mono ?_
  rintro e w' ⟨v4, v5, rfl, h4, h5, hb⟩
  obtain ⟨E4, e4, rfl, le4, cc4⟩ := Kd.R_reads h4
  obtain ⟨E5, e5, rfl, le5, cc5⟩ := Kd.R_reads h5
  exact ⟨E4, e4, E5, e5, rfl, ⟨cc4, le4, cc5, le5⟩, hb⟩
set_option maxHeartbeats 3200000 in
set_option maxRecDepth 100000 in
theorem fnGet (x : S26) (key : ByteArray) (A4 : Option Addr) (c4 : Nat) (A5 : Option Addr) (c5 : Nat) (w : World) (hx : Whole64 x) (hks : key.size ≤ 140737488351232) (h4 : RowsAt x A4 c4 A5 c5 w) :
    Calls Try.prog 4 #[aggOf x A4 c4 A5 c5, .string key] w fun e w' => e = .returned (.bool true) ∧ Below w.heap.size w w' := by
  obtain ⟨r1, hr1⟩ := zz1_con x A4 c4 A5 c5
  obtain ⟨r2, ht2, hr2⟩ := dict_con x A4 c4 A5 c5
  have HX := Lib.hid hx
  have H4 := Lib.hid h4
  have HR1 := Lib.hid hr1
  have HR2 := Lib.hid hr2
  have HT2 := Lib.hid ht2
  obtain ⟨W2, hW2⟩ : ∃ W2, W2 = w.alloc (.cells #[.int .i64 x.f0, .int .i64 x.f1, .float .f64 x.f2, .string x.f3, .slice A4 x.f4.length c4, .slice A5 x.f5.length c5] 26) := ⟨_, rfl⟩
  have HW2 := Lib.hid hW2
  have HZ0 := Lib.hid (show w.heap.size + 1 ≤ W2.heap.size by rw [hW2]; simp)
  have HB0 := Lib.hid (show Below w.heap.size w W2 by rw [hW2]; exact (Below.refl _ _).alloc (Nat.le_refl _) _)
  have HX0 := Lib.hid (show W2.heap[w.heap.size]? = some (.cells #[.int .i64 x.f0, .int .i64 x.f1, .float .f64 x.f2, .string x.f3, .slice A4 x.f4.length c4, .slice A5 x.f5.length c5] 26 (0, 0)) by rw [hW2]; exact blk_new w _)
  clear hx h4 hr1 hr2 ht2 hW2
  unfold aggOf at HR1 HR2
  unfold aggOf
  go_enter Try.func4, Try.ntmps4
  go_wp2_with fail
  rw [← HW2.out]
  clear HW2
  refine (HR1.out W2 (H4.out.below HB0.out)).mono ?_
  rintro e w1 ⟨rfl, hb1⟩
  have HB1 := Lib.hid (HB0.out.trans (hb1.mono HB0.out.size))
  have HZ1 := Lib.hid (Nat.le_trans HZ0.out hb1.size)
  have hx1 := blk_below HX0.out hb1
  have HX1 := Lib.hid hx1
  obtain ⟨p0, p1, p2, p3, p4, p5⟩ := cells6 hx1
  clear hx1 hb1 HX0 HB0 HZ0 HR1
  cases r1
  · go_wp2
    go_ret
    exact ⟨rfl, HB1.out⟩
  by_cases hk0 : 2147483647 < (key.size : Int)
  · have hd0 : decide (2147483647 < (key.size : Int)) = true := decide_eq_true hk0
    go_wp2
    go_ret
    exact ⟨rfl, HB1.out⟩
  have hd0 : decide (2147483647 < (key.size : Int)) = false := decide_eq_false hk0
  go_wp2_with fail
  refine (HR2.out w1 (H4.out.below HB1.out)).mono ?_
  rintro e w2 ⟨rfl, hb2⟩
  have HB2 := Lib.hid (HB1.out.trans (hb2.mono HB1.out.size))
  have HZ2 := Lib.hid (Nat.le_trans HZ1.out hb2.size)
  have hx2 := blk_below HX1.out hb2
  have HX2 := Lib.hid hx2
  clear p0 p1 p2 p3 p4 p5
  obtain ⟨p0, p1, p2, p3, p4, p5⟩ := cells6 hx2
  clear hx2 hb2 HX1 HB1 HZ1 HR2 hk0 hd0
  cases r2
  · go_wp2
    go_ret
    exact ⟨rfl, HB2.out⟩
  by_cases hk1 : 300 < (key.size : Int)
  · have hd1 : decide (300 < (key.size : Int)) = true := decide_eq_true hk1
    go_wp2
    go_ret
    exact ⟨rfl, HB2.out⟩
  have hd1 : decide (300 < (key.size : Int)) = false := decide_eq_false hk1
  obtain ⟨h7, hright⟩ := HT2.out rfl
  have hfit := right_fits hright HX.out
  obtain ⟨ri, rb, hat, hAt⟩ := At_con x key (hfit.2.2.2.2.2.2.1 h7).2 (by have := fits_keys hfit; omega) A4 c4 A5 c5
  have HKEY := Lib.hid (show key.size ≤ 300 by omega)
  have H7 := Lib.hid h7
  have HRIGHT := Lib.hid hright
  have HFIT := Lib.hid hfit
  have HATOK := Lib.hid hat
  have HAT := Lib.hid hAt
  unfold aggOf at HAT
  clear h7 hright hfit hat hAt HT2
  go_wp2_with fail
  refine (HAT.out w2 (H4.out.below HB2.out)).mono ?_
  rintro e w3 ⟨rfl, hb3⟩
  have HB3 := Lib.hid (HB2.out.trans (hb3.mono HB2.out.size))
  have HZ3 := Lib.hid (Nat.le_trans HZ2.out hb3.size)
  have HX3 := Lib.hid (blk_below HX2.out hb3)
  clear p0 p1 p2 p3 p4 p5 hb3 HX2 HB2 HZ2 HAT hd1 hk1
  go_wp2_with fail
  refine (Text_con w3).mono ?_
  rintro e w4 ⟨B4, d4, B5, d5, rfl, hrt, hb4⟩
  have HB4 := Lib.hid (HB3.out.trans (hb4.mono HB3.out.size))
  have HZ4 := Lib.hid (Nat.le_trans HZ3.out hb4.size)
  have HX4 := Lib.hid (blk_below HX3.out hb4)
  have HRT := Lib.hid hrt
  clear hb4 HX3 HB3 HZ3 hrt
  have hx5 := blk_alloc HX4.out (.cells #[.int .i64 5, .int .i64 0, .float .f64 0, .string ⟨#[]⟩, .slice B4 0 d4, .slice B5 0 d5] 26)
  obtain ⟨p0, p1, p2, p3, p4, p5⟩ := cells6 hx5
  clear hx5
  cases rb
  · go_wp2_with fail
    obtain ⟨W5, hW5⟩ : ∃ W5, W5 = w4.alloc (.cells #[.int .i64 5, .int .i64 0, .float .f64 0, .string ⟨#[]⟩, .slice B4 0 d4, .slice B5 0 d5] 26) := ⟨_, rfl⟩
    have hal : Below w4.heap.size w4 W5 := by rw [hW5]; exact (Below.refl _ _).alloc (Nat.le_refl _) _
    have HB5 := Lib.hid (HB4.out.trans (hal.mono HB4.out.size))
    have HX5 := Lib.hid (blk_below HX4.out hal)
    have HW5 := Lib.hid (show W5.heap[w4.heap.size]? = some (.cells #[.int .i64 5, .int .i64 0, .float .f64 0, .string ⟨#[]⟩, .slice B4 0 d4, .slice B5 0 d5] 26 (0, 0)) by rw [hW5]; exact blk_new w4 _)
    have HWR := Lib.hid (RowsAt.below HRT.out hal)
    have HWE := Lib.hid hW5
    obtain ⟨zz, hzz⟩ : ∃ zz, zz = noText := ⟨_, rfl⟩
    have hgz : gotOf x (ri, false) = zz := by rw [hzz]; rfl
    have HG := Lib.hid (implGet_call x zz H7.out key HKEY.out ri false HATOK.out hgz A4 c4 A5 c5 W5 HFIT.out (H4.out.below HB5.out))
    have hfz : fitsN 7 zz := by rw [← hgz]; exact got_fits H7.out HFIT.out HATOK.out
    have hrz : rightN 7 zz := by rw [← hgz]; exact got_right H7.out HRIGHT.out HATOK.out
    have HSAME := Lib.hid (same_norm hrz)
    have HFN := Lib.hid (fits_norm hfz)
    unfold aggOf at HG
    rw [← hzz] at HWR
    have HZZ := Lib.hid hzz
    clear hzz hal hW5 hgz hfz hrz p0 p1 p2 p3 p4 p5
    rw [← HWE.out]
    clear HWE
    refine HG.out.mono ?_
    rintro e w6 ⟨v4, v5, rfl, r4, r5, hb6⟩
    have HB6 := Lib.hid (HB5.out.trans (hb6.mono HB5.out.size))
    obtain ⟨G4, g4, rfl, le4, cc4⟩ := Kd.R_reads r4
    obtain ⟨G5, g5, rfl, le5, cc5⟩ := Kd.R_reads r5
    obtain ⟨W7, hW7⟩ : ∃ W7, W7 = w6.alloc (.cells #[.int .i64 (normN 7 zz).f0, .int .i64 (normN 7 zz).f1, .float .f64 (normN 7 zz).f2, .string (normN 7 zz).f3, .slice G4 (normN 7 zz).f4.length g4, .slice G5 (normN 7 zz).f5.length g5] 26) := ⟨_, rfl⟩
    have hal : Below w6.heap.size w6 W7 := by rw [hW7]; exact (Below.refl _ _).alloc (Nat.le_refl _) _
    have HB7 := Lib.hid (HB6.out.trans (hal.mono HB6.out.size))
    have hx7 := blk_below (blk_below HX5.out hb6) hal
    have HW7 := Lib.hid (blk_below (blk_below HW5.out hb6) hal)
    have HN7 := Lib.hid (show W7.heap[w6.heap.size]? = some (.cells #[.int .i64 (normN 7 zz).f0, .int .i64 (normN 7 zz).f1, .float .f64 (normN 7 zz).f2, .string (normN 7 zz).f3, .slice G4 (normN 7 zz).f4.length g4, .slice G5 (normN 7 zz).f5.length g5] 26 (0, 0)) by rw [hW7]; exact blk_new w6 _)
    have HC4 := Lib.hid (Kd.C_below cc4 hal)
    have HC5 := Lib.hid (Kd.C_below cc5 hal)
    have HWR7 := Lib.hid ((HWR.out.below hb6).below hal)
    obtain ⟨q0, q1, q2, q3, q4, q5⟩ := cells6 hx7
    rw [hW7] at q0 q1 q2 q3 q4 q5
    have HH := Lib.hid (implHasKey_call x H7.out key HKEY.out ri false HATOK.out A4 c4 A5 c5 W7 HFIT.out (H4.out.below HB7.out))
    unfold aggOf at HH
    have HWE := Lib.hid hW7
    clear r4 r5 hb6 cc4 cc5 hal hx7 hW7 HG HWR HW5 HX5 HB5
    go_wp2_with fail
    rw [← HWE.out]
    clear HWE q0 q1 q2 q3 q4 q5
    refine HH.out.mono ?_
    rintro e w8 ⟨rfl, hb8⟩
    have HB8 := Lib.hid (HB7.out.trans (hb8.mono HB7.out.size))
    have hw8 := blk_below HW7.out hb8
    have hn8 := blk_below HN7.out hb8
    obtain ⟨t0, t1, t2, t3, t4, t5⟩ := cells6 hw8
    obtain ⟨s0, s1, s2, s3, s4, s5⟩ := cells6 hn8
    have hwr8 := HWR7.out.below hb8
    have HS := Lib.hid (same_all 7 (normN 7 zz) zz G4 g4 G5 g5 B4 d4 B5 d5 w8 HFN.out (fits_keys HFN.out) (Kd.C_below HC4.out hb8) le4 (Kd.C_below HC5.out hb8) le5 hwr8.1 hwr8.2.1 hwr8.2.2.1 hwr8.2.2.2)
    clear hb8 hw8 hn8 hwr8 HH HC4 HC5 HN7 HW7 HWR7 HFN HB7 HB6
    have hzz := HZZ.out
    clear HZZ
    subst hzz
    go_wp2_with fail
    refine HS.out.mono ?_
    rintro e w9 ⟨r, rfl, hr, hb9⟩
    obtain rfl : r = true := hr.2 HSAME.out
    have HB9 := Lib.hid (HB8.out.trans (hb9.mono HB8.out.size))
    clear hr hb9 t0 t1 t2 t3 t4 t5 s0 s1 s2 s3 s4 s5 HS
    go_wp2
    go_ret
    exact ⟨rfl, HB9.out⟩
  · obtain ⟨i, hi, hilt, -⟩ := HATOK.out.1 rfl
    simp only at hi
    subst hi
    have hlen := (HFIT.out.2.2.2.2.2.2.1 H7.out).1
    obtain ⟨ad, E4, m4, E5, m5, hA5, e0, e1, e2, e3, e4, e5, l4, k4, l5, k5⟩ := at_T26 (Kd.C_below H4.out.2.2.1 HB4.out) (i : Int) (by omega) (by omega)
    subst hA5
    simp only [Int.toNat_natCast] at e0 e1 e2 e3 e4 e5
    have halN : Below w4.heap.size w4 (w4.alloc (.cells #[.int .i64 5, .int .i64 0, .float .f64 0, .string ⟨#[]⟩, .slice B4 0 d4, .slice B5 0 d5] 26)) := (Below.refl _ _).alloc (Nat.le_refl _) _
    have a0 := (halN.cell (cell_lt e0)).trans e0
    have a1 := (halN.cell (cell_lt e1)).trans e1
    have a2 := (halN.cell (cell_lt e2)).trans e2
    have a3 := (halN.cell (cell_lt e3)).trans e3
    have a4 := (halN.cell (cell_lt e4)).trans e4
    have a5 := (halN.cell (cell_lt e5)).trans e5
    have HGOT := Lib.hid (show gotOf x (i, true) = rd_T26 x.f5 (i : Int) from rfl)
    have HRY := Lib.hid (show RowsAt (rd_T26 x.f5 (i : Int)) E4 m4 E5 m5 w4 from ⟨k4, l4, k5, l5⟩)
    have ci0 : (0 : Int) ≤ (i : Int) := by omega
    have ci1 : (i : Int) < (x.f5.length : Int) := by omega
    have ci2 : i < x.f5.length := by omega
    clear l4 k4 l5 k5 halN hlen
    generalize rd_T26 x.f5 (i : Int) = y at *
    have hx6 := blk_alloc HX4.out (.cells #[.int .i64 y.f0, .int .i64 y.f1, .float .f64 y.f2, .string y.f3, .slice E4 y.f4.length m4, .slice E5 y.f5.length m5] 26)
    obtain ⟨g0, g1, g2, g3, g4, g5⟩ := cells6 hx6
    clear hx6
    go_wp2_with fail
    obtain ⟨W5, hW5⟩ : ∃ W5, W5 = w4.alloc (.cells #[.int .i64 y.f0, .int .i64 y.f1, .float .f64 y.f2, .string y.f3, .slice E4 y.f4.length m4, .slice E5 y.f5.length m5] 26) := ⟨_, rfl⟩
    have hal : Below w4.heap.size w4 W5 := by rw [hW5]; exact (Below.refl _ _).alloc (Nat.le_refl _) _
    have HB5 := Lib.hid (HB4.out.trans (hal.mono HB4.out.size))
    have HX5 := Lib.hid (blk_below HX4.out hal)
    have HW5 := Lib.hid (show W5.heap[w4.heap.size]? = some (.cells #[.int .i64 y.f0, .int .i64 y.f1, .float .f64 y.f2, .string y.f3, .slice E4 y.f4.length m4, .slice E5 y.f5.length m5] 26 (0, 0)) by rw [hW5]; exact blk_new w4 _)
    have HWR := Lib.hid (RowsAt.below HRY.out hal)
    have HWE := Lib.hid hW5
    obtain ⟨zz, hzz⟩ : ∃ zz, zz = y := ⟨_, rfl⟩
    have hgz : gotOf x (i, true) = zz := by rw [hzz]; exact HGOT.out
    have HG := Lib.hid (implGet_call x zz H7.out key HKEY.out (i : Int) true HATOK.out hgz A4 c4 (some ad) c5 W5 HFIT.out (H4.out.below HB5.out))
    have hfz : fitsN 7 zz := by rw [← hgz]; exact got_fits H7.out HFIT.out HATOK.out
    have hrz : rightN 7 zz := by rw [← hgz]; exact got_right H7.out HRIGHT.out HATOK.out
    have HSAME := Lib.hid (same_norm hrz)
    have HFN := Lib.hid (fits_norm hfz)
    unfold aggOf at HG
    rw [← hzz] at HWR
    have HZZ := Lib.hid hzz
    clear hzz hal hW5 hgz hfz hrz p0 p1 p2 p3 p4 p5 g0 g1 g2 g3 g4 g5 a0 a1 a2 a3 a4 a5 e0 e1 e2 e3 e4 e5 ci0 ci1 ci2
    rw [← HWE.out]
    clear HWE
    refine HG.out.mono ?_
    rintro e w6 ⟨v4, v5, rfl, r4, r5, hb6⟩
    have HB6 := Lib.hid (HB5.out.trans (hb6.mono HB5.out.size))
    obtain ⟨G4, g4, rfl, le4, cc4⟩ := Kd.R_reads r4
    obtain ⟨G5, g5, rfl, le5, cc5⟩ := Kd.R_reads r5
    obtain ⟨W7, hW7⟩ : ∃ W7, W7 = w6.alloc (.cells #[.int .i64 (normN 7 zz).f0, .int .i64 (normN 7 zz).f1, .float .f64 (normN 7 zz).f2, .string (normN 7 zz).f3, .slice G4 (normN 7 zz).f4.length g4, .slice G5 (normN 7 zz).f5.length g5] 26) := ⟨_, rfl⟩
    have hal : Below w6.heap.size w6 W7 := by rw [hW7]; exact (Below.refl _ _).alloc (Nat.le_refl _) _
    have HB7 := Lib.hid (HB6.out.trans (hal.mono HB6.out.size))
    have hx7 := blk_below (blk_below HX5.out hb6) hal
    have HW7 := Lib.hid (blk_below (blk_below HW5.out hb6) hal)
    have HN7 := Lib.hid (show W7.heap[w6.heap.size]? = some (.cells #[.int .i64 (normN 7 zz).f0, .int .i64 (normN 7 zz).f1, .float .f64 (normN 7 zz).f2, .string (normN 7 zz).f3, .slice G4 (normN 7 zz).f4.length g4, .slice G5 (normN 7 zz).f5.length g5] 26 (0, 0)) by rw [hW7]; exact blk_new w6 _)
    have HC4 := Lib.hid (Kd.C_below cc4 hal)
    have HC5 := Lib.hid (Kd.C_below cc5 hal)
    have HWR7 := Lib.hid ((HWR.out.below hb6).below hal)
    obtain ⟨q0, q1, q2, q3, q4, q5⟩ := cells6 hx7
    rw [hW7] at q0 q1 q2 q3 q4 q5
    have HH := Lib.hid (implHasKey_call x H7.out key HKEY.out (i : Int) true HATOK.out A4 c4 (some ad) c5 W7 HFIT.out (H4.out.below HB7.out))
    unfold aggOf at HH
    have HWE := Lib.hid hW7
    clear r4 r5 hb6 cc4 cc5 hal hx7 hW7 HG HWR HW5 HX5 HB5
    go_wp2_with fail
    rw [← HWE.out]
    clear HWE q0 q1 q2 q3 q4 q5
    refine HH.out.mono ?_
    rintro e w8 ⟨rfl, hb8⟩
    have HB8 := Lib.hid (HB7.out.trans (hb8.mono HB7.out.size))
    have hw8 := blk_below HW7.out hb8
    have hn8 := blk_below HN7.out hb8
    obtain ⟨t0, t1, t2, t3, t4, t5⟩ := cells6 hw8
    obtain ⟨s0, s1, s2, s3, s4, s5⟩ := cells6 hn8
    have hwr8 := HWR7.out.below hb8
    have HS := Lib.hid (same_all 7 (normN 7 zz) zz G4 g4 G5 g5 E4 m4 E5 m5 w8 HFN.out (fits_keys HFN.out) (Kd.C_below HC4.out hb8) le4 (Kd.C_below HC5.out hb8) le5 hwr8.1 hwr8.2.1 hwr8.2.2.1 hwr8.2.2.2)
    clear hb8 hw8 hn8 hwr8 HH HC4 HC5 HN7 HW7 HWR7 HFN HB7 HB6
    have hzz := HZZ.out
    clear HZZ
    subst hzz
    go_wp2_with fail
    refine HS.out.mono ?_
    rintro e w9 ⟨r, rfl, hr, hb9⟩
    obtain rfl : r = true := hr.2 HSAME.out
    have HB9 := Lib.hid (HB8.out.trans (hb9.mono HB8.out.size))
    clear hr hb9 t0 t1 t2 t3 t4 t5 s0 s1 s2 s3 s4 s5 HS
    go_wp2
    go_ret
    exact ⟨rfl, HB9.out⟩
end Go.Proofs.Ytlefdkemgfjieaa.P
