/- FnTernary holds of every two values. -/
import Derived.Test.YtlefdkemgfjieaaT1
set_option linter.unusedVariables false
set_option linter.unusedSimpArgs false
namespace Go.Proofs.Ytlefdkemgfjieaa.P
open Go.RowKit Go.Proofs.YtlefdkemgfjieaaW.PrintWords Go.Proofs.YtlefdkemgfjieaaW.PrintLast Go.Proofs.YtlefdkemgfjieaaW.PrintMore
attribute [local go_sem] run_store_float

theorem cells6 {W : World} {g : Nat} {a0 a1 a2 a3 a4 a5 : Value} {t : TypeId} (h : W.heap[g]? = some (.cells #[a0, a1, a2, a3, a4, a5] t (0, 0))) :
    W.cell? ⟨g, 0, none⟩ = some a0 ∧ W.cell? ⟨g, 1, none⟩ = some a1 ∧ W.cell? ⟨g, 2, none⟩ = some a2 ∧ W.cell? ⟨g, 3, none⟩ = some a3 ∧ W.cell? ⟨g, 4, none⟩ = some a4 ∧ W.cell? ⟨g, 5, none⟩ = some a5 :=
  ⟨by rw [blk_cell h 0]; rfl, by rw [blk_cell h 1]; rfl, by rw [blk_cell h 2]; rfl, by rw [blk_cell h 3]; rfl, by rw [blk_cell h 4]; rfl, by rw [blk_cell h 5]; rfl⟩
set_option maxHeartbeats 3200000 in
set_option maxRecDepth 100000 in
theorem fnTernary (x y : S26) (b : Bool) (A4 : Option Addr) (c4 : Nat) (A5 : Option Addr) (c5 : Nat) (B4 : Option Addr) (d4 : Nat) (B5 : Option Addr) (d5 : Nat) (w : World) (hx : Whole64 x) (hy : Whole64 y)
    (h4 : RowsAt x A4 c4 A5 c5 w) (g4 : RowsAt y B4 d4 B5 d5 w) :
    Calls Try.prog 3 #[aggOf x A4 c4 A5 c5, aggOf y B4 d4 B5 d5, .bool b] w fun e w' => e = .returned (.bool true) ∧ Below w.heap.size w w' := by
  obtain ⟨r1, hr1⟩ := zz1_con x A4 c4 A5 c5
  obtain ⟨r2, hr2⟩ := zz1_con y B4 d4 B5 d5
  obtain ⟨r3, ht3, hr3⟩ := Right_con x A4 c4 A5 c5
  obtain ⟨r4, ht4, hr4⟩ := Right_con y B4 d4 B5 d5
  have HX := Lib.hid hx
  have HY := Lib.hid hy
  have H4 := Lib.hid h4
  have G4 := Lib.hid g4
  have HR1 := Lib.hid hr1
  have HR2 := Lib.hid hr2
  have HR3 := Lib.hid hr3
  have HR4 := Lib.hid hr4
  have HT3 := Lib.hid ht3
  have HT4 := Lib.hid ht4
  clear hx hy h4 g4 hr1 hr2 hr3 hr4 ht3 ht4
  obtain ⟨W2, hW2⟩ : ∃ W2, W2 = (w.alloc (.cells #[.int .i64 x.f0, .int .i64 x.f1, .float .f64 x.f2, .string x.f3, .slice A4 x.f4.length c4, .slice A5 x.f5.length c5] 26)).alloc (.cells #[.int .i64 y.f0, .int .i64 y.f1, .float .f64 y.f2, .string y.f3, .slice B4 y.f4.length d4, .slice B5 y.f5.length d5] 26) := ⟨_, rfl⟩
  have HW2 := Lib.hid hW2
  have HZ0 := Lib.hid (show w.heap.size + 2 ≤ W2.heap.size by rw [hW2]; simp)
  have HB0 := Lib.hid (show Below w.heap.size w W2 by rw [hW2]; exact ((Below.refl _ _).alloc (Nat.le_refl _) _).alloc (by simp) _)
  have HX0 := Lib.hid (show W2.heap[w.heap.size]? = some (.cells #[.int .i64 x.f0, .int .i64 x.f1, .float .f64 x.f2, .string x.f3, .slice A4 x.f4.length c4, .slice A5 x.f5.length c5] 26 (0, 0)) by rw [hW2]; exact blk_alloc (blk_new w _) _)
  have HY0 := Lib.hid (show W2.heap[w.heap.size + 1]? = some (.cells #[.int .i64 y.f0, .int .i64 y.f1, .float .f64 y.f2, .string y.f3, .slice B4 y.f4.length d4, .slice B5 y.f5.length d5] 26 (0, 0)) by
    have := blk_new (w.alloc (.cells #[.int .i64 x.f0, .int .i64 x.f1, .float .f64 x.f2, .string x.f3, .slice A4 x.f4.length c4, .slice A5 x.f5.length c5] 26)) (.cells #[.int .i64 y.f0, .int .i64 y.f1, .float .f64 y.f2, .string y.f3, .slice B4 y.f4.length d4, .slice B5 y.f5.length d5] 26)
    rw [size_alloc1] at this
    rw [hW2]
    exact this)
  clear hW2
  unfold aggOf at HR1 HR2 HR3 HR4
  unfold aggOf
  go_enter Try.func3, Try.ntmps3
  go_wp2_with fail
  rw [← HW2.out]
  clear HW2
  refine (HR1.out W2 (H4.out.below HB0.out)).mono ?_
  rintro e w1 ⟨rfl, hb1⟩
  have HB1 := Lib.hid (HB0.out.trans (hb1.mono (by have := HZ0.out; omega)))
  have HZ1 := Lib.hid (Nat.le_trans HZ0.out hb1.size)
  have hx1 := blk_below HX0.out hb1
  have hy1 := blk_below HY0.out hb1
  have HX1 := Lib.hid hx1
  have HY1 := Lib.hid hy1
  obtain ⟨p0, p1, p2, p3, p4, p5⟩ := cells6 hx1
  obtain ⟨q0, q1, q2, q3, q4, q5⟩ := cells6 hy1
  clear hx1 hy1 hb1 HX0 HY0 HB0 HZ0 HR1
  cases r1
  · go_wp2
    go_ret
    exact ⟨rfl, HB1.out⟩
  go_wp2_with fail
  refine (HR2.out w1 (G4.out.below HB1.out)).mono ?_
  rintro e w2 ⟨rfl, hb2⟩
  clear p0 p1 p2 p3 p4 p5 q0 q1 q2 q3 q4 q5
  have HB2 := Lib.hid (HB1.out.trans (hb2.mono (by have := HZ1.out; omega)))
  have HZ2 := Lib.hid (Nat.le_trans HZ1.out hb2.size)
  have hx2 := blk_below HX1.out hb2
  have hy2 := blk_below HY1.out hb2
  have HX2 := Lib.hid hx2
  have HY2 := Lib.hid hy2
  obtain ⟨p0, p1, p2, p3, p4, p5⟩ := cells6 hx2
  obtain ⟨q0, q1, q2, q3, q4, q5⟩ := cells6 hy2
  clear hx2 hy2 hb2 HX1 HY1 HB1 HZ1 HR2
  cases r2
  · go_wp2
    go_ret
    exact ⟨rfl, HB2.out⟩
  go_wp2_with fail
  refine (HR3.out w2 (H4.out.below HB2.out)).mono ?_
  rintro e w3 ⟨rfl, hb3⟩
  clear p0 p1 p2 p3 p4 p5 q0 q1 q2 q3 q4 q5
  have HB3 := Lib.hid (HB2.out.trans (hb3.mono (by have := HZ2.out; omega)))
  have HZ3 := Lib.hid (Nat.le_trans HZ2.out hb3.size)
  have hx3 := blk_below HX2.out hb3
  have hy3 := blk_below HY2.out hb3
  have HX3 := Lib.hid hx3
  have HY3 := Lib.hid hy3
  obtain ⟨p0, p1, p2, p3, p4, p5⟩ := cells6 hx3
  obtain ⟨q0, q1, q2, q3, q4, q5⟩ := cells6 hy3
  clear hx3 hy3 hb3 HX2 HY2 HB2 HZ2 HR3
  cases r3
  · go_wp2
    go_ret
    exact ⟨rfl, HB3.out⟩
  go_wp2_with fail
  refine (HR4.out w3 (G4.out.below HB3.out)).mono ?_
  rintro e w4 ⟨rfl, hb4⟩
  clear p0 p1 p2 p3 p4 p5 q0 q1 q2 q3 q4 q5
  have HB4 := Lib.hid (HB3.out.trans (hb4.mono (by have := HZ3.out; omega)))
  have HZ4 := Lib.hid (Nat.le_trans HZ3.out hb4.size)
  have hx4 := blk_below HX3.out hb4
  have hy4 := blk_below HY3.out hb4
  have HX4 := Lib.hid hx4
  have HY4 := Lib.hid hy4
  obtain ⟨p0, p1, p2, p3, p4, p5⟩ := cells6 hx4
  obtain ⟨q0, q1, q2, q3, q4, q5⟩ := cells6 hy4
  clear hx4 hy4 hb4 HX3 HY3 HB3 HZ3 HR4
  cases r4
  · go_wp2
    go_ret
    exact ⟨rfl, HB4.out⟩
  have hx5 := blk_alloc HX4.out (.cells #[.int .i64 y.f0, .int .i64 y.f1, .float .f64 y.f2, .string y.f3, .slice B4 y.f4.length d4, .slice B5 y.f5.length d5] 26)
  have hy5 := blk_alloc HY4.out (.cells #[.int .i64 y.f0, .int .i64 y.f1, .float .f64 y.f2, .string y.f3, .slice B4 y.f4.length d4, .slice B5 y.f5.length d5] 26)
  have hw5 := blk_new w4 (.cells #[.int .i64 y.f0, .int .i64 y.f1, .float .f64 y.f2, .string y.f3, .slice B4 y.f4.length d4, .slice B5 y.f5.length d5] 26)
  obtain ⟨s0, s1, s2, s3, s4, s5⟩ := cells6 hx5
  obtain ⟨u0, u1, u2, u3, u4, u5⟩ := cells6 hy5
  obtain ⟨t0, t1, t2, t3, t4, t5⟩ := cells6 hw5
  have z0 := blk_frozen hw5 0
  have z1 := blk_frozen hw5 1
  have z2 := blk_frozen hw5 2
  have z3 := blk_frozen hw5 3
  have z4 := blk_frozen hw5 4
  have z5 := blk_frozen hw5 5
  have HX5 := Lib.hid hx5
  have HY5 := Lib.hid hy5
  have HW5 := Lib.hid hw5
  clear hx5 hw5 hy5
  have n1 : ¬ w.heap.size = w4.heap.size := by have := HZ4.out; omega
  have n2 : ¬ w.heap.size + 1 = w4.heap.size := by have := HZ4.out; omega
  have n3 : ¬ w4.heap.size = w.heap.size := by have := HZ4.out; omega
  have n4 : ¬ w4.heap.size = w.heap.size + 1 := by have := HZ4.out; omega
  cases b
  · go_wp2_with fail
    have hx6 := blk_new w4 (.cells #[.int .i64 y.f0, .int .i64 y.f1, .float .f64 y.f2, .string y.f3, .slice B4 y.f4.length d4, .slice B5 y.f5.length d5] 26)
    obtain ⟨W5, hW5⟩ : ∃ W5, W5 = w4.alloc (.cells #[.int .i64 y.f0, .int .i64 y.f1, .float .f64 y.f2, .string y.f3, .slice B4 y.f4.length d4, .slice B5 y.f5.length d5] 26) := ⟨_, rfl⟩
    have HB5 := Lib.hid (show Below w.heap.size w W5 by rw [hW5]; exact HB4.out.alloc (by have := HZ4.out; omega) _)
    have HZ5 := Lib.hid (show w4.heap.size + 1 = W5.heap.size by rw [hW5]; simp)
    rw [← hW5] at hx6 ⊢
    have HW5 := Lib.hid hx6
    have HT := Lib.hid (implTernary_call (n := 8) x y y false rfl A4 c4 A5 c5 B4 d4 B5 d5 W5 (right_fits (HT3.out trivial) HX.out) (right_fits (HT4.out trivial) HY.out) (H4.out.below HB5.out).1 H4.out.2.1 (H4.out.below HB5.out).2.2.1 H4.out.2.2.2 (G4.out.below HB5.out).1 G4.out.2.1 (G4.out.below HB5.out).2.2.1 G4.out.2.2.2)
    have HSAME := Lib.hid (same_norm (HT4.out trivial))
    have HFN := Lib.hid (fits_norm (right_fits (HT4.out trivial) HY.out))
    clear hW5 hx6 p0 p1 p2 p3 p4 p5 q0 q1 q2 q3 q4 q5 s0 s1 s2 s3 s4 s5 u0 u1 u2 u3 u4 u5 t0 t1 t2 t3 t4 t5 z0 z1 z2 z3 z4 z5 n1 n2 n3 n4 HX5 HY5
    unfold aggOf at HT
    refine HT.out.mono ?_
    rintro e w6 ⟨v4, v5, rfl, r4, r5, hb6⟩
    have HB6 := Lib.hid (HB5.out.trans (hb6.mono (by have := HZ4.out; have := HZ5.out; omega)))
    obtain ⟨E4, e4, rfl, le4, cc4⟩ := Kd.R_reads r4
    obtain ⟨E5, e5, rfl, le5, cc5⟩ := Kd.R_reads r5
    have hw6 := blk_alloc (blk_below HW5.out hb6) (.cells #[.int .i64 (normN 8 y).f0, .int .i64 (normN 8 y).f1, .float .f64 (normN 8 y).f2, .string (normN 8 y).f3, .slice E4 (normN 8 y).f4.length e4, .slice E5 (normN 8 y).f5.length e5] 26)
    obtain ⟨ta0, ta1, ta2, ta3, ta4, ta5⟩ := cells6 hw6
    have hB7 : Below w.heap.size w (w6.alloc (.cells #[.int .i64 (normN 8 y).f0, .int .i64 (normN 8 y).f1, .float .f64 (normN 8 y).f2, .string (normN 8 y).f3, .slice E4 (normN 8 y).f4.length e4, .slice E5 (normN 8 y).f5.length e5] 26)) := HB6.out.alloc (by have h1 := hb6.size; have := HZ4.out; have := HZ5.out; omega) _
    have HB7 := Lib.hid hB7
    have hal : Below w6.heap.size w6 (w6.alloc (.cells #[.int .i64 (normN 8 y).f0, .int .i64 (normN 8 y).f1, .float .f64 (normN 8 y).f2, .string (normN 8 y).f3, .slice E4 (normN 8 y).f4.length e4, .slice E5 (normN 8 y).f5.length e5] 26)) := (Below.refl _ _).alloc (Nat.le_refl _) _
    have HS := Lib.hid (same_all 8 (normN 8 y) y E4 e4 E5 e5 B4 d4 B5 d5 (w6.alloc (.cells #[.int .i64 (normN 8 y).f0, .int .i64 (normN 8 y).f1, .float .f64 (normN 8 y).f2, .string (normN 8 y).f3, .slice E4 (normN 8 y).f4.length e4, .slice E5 (normN 8 y).f5.length e5] 26)) HFN.out (fits_keys HFN.out) (Kd.C_below cc4 hal) le4 (Kd.C_below cc5 hal) le5 (G4.out.below hB7).1 G4.out.2.1 (G4.out.below hB7).2.2.1 G4.out.2.2.2)
    clear r4 r5 hb6 hw6 HT cc4 cc5 le4 le5 hB7 hal HFN
    go_wp2_with fail
    refine HS.out.mono ?_
    rintro e w8 ⟨r, rfl, hr, hb8⟩
    obtain rfl : r = true := hr.2 HSAME.out
    have HB8 := Lib.hid (HB7.out.trans (hb8.mono (by simp; have := HB6.out.size; omega)))
    clear hr hb8
    go_wp2
    go_ret
    exact ⟨rfl, HB8.out⟩
  · have hx6 := blk_alloc HX4.out (.cells #[.int .i64 x.f0, .int .i64 x.f1, .float .f64 x.f2, .string x.f3, .slice A4 x.f4.length c4, .slice A5 x.f5.length c5] 26)
    have hy6 := blk_alloc HY4.out (.cells #[.int .i64 x.f0, .int .i64 x.f1, .float .f64 x.f2, .string x.f3, .slice A4 x.f4.length c4, .slice A5 x.f5.length c5] 26)
    have hw6 := blk_new w4 (.cells #[.int .i64 x.f0, .int .i64 x.f1, .float .f64 x.f2, .string x.f3, .slice A4 x.f4.length c4, .slice A5 x.f5.length c5] 26)
    obtain ⟨sa0, sa1, sa2, sa3, sa4, sa5⟩ := cells6 hx6
    obtain ⟨ua0, ua1, ua2, ua3, ua4, ua5⟩ := cells6 hy6
    obtain ⟨ta0, ta1, ta2, ta3, ta4, ta5⟩ := cells6 hw6
    clear hx6 hy6 hw6
    go_wp2_with fail
    have hx6 := blk_new w4 (.cells #[.int .i64 x.f0, .int .i64 x.f1, .float .f64 x.f2, .string x.f3, .slice A4 x.f4.length c4, .slice A5 x.f5.length c5] 26)
    obtain ⟨W5, hW5⟩ : ∃ W5, W5 = w4.alloc (.cells #[.int .i64 x.f0, .int .i64 x.f1, .float .f64 x.f2, .string x.f3, .slice A4 x.f4.length c4, .slice A5 x.f5.length c5] 26) := ⟨_, rfl⟩
    have HB5 := Lib.hid (show Below w.heap.size w W5 by rw [hW5]; exact HB4.out.alloc (by have := HZ4.out; omega) _)
    have HZ5 := Lib.hid (show w4.heap.size + 1 = W5.heap.size by rw [hW5]; simp)
    rw [← hW5] at hx6 ⊢
    have HW5 := Lib.hid hx6
    have HT := Lib.hid (implTernary_call (n := 8) x y x true rfl A4 c4 A5 c5 B4 d4 B5 d5 W5 (right_fits (HT3.out trivial) HX.out) (right_fits (HT4.out trivial) HY.out) (H4.out.below HB5.out).1 H4.out.2.1 (H4.out.below HB5.out).2.2.1 H4.out.2.2.2 (G4.out.below HB5.out).1 G4.out.2.1 (G4.out.below HB5.out).2.2.1 G4.out.2.2.2)
    have HSAME := Lib.hid (same_norm (HT3.out trivial))
    have HFN := Lib.hid (fits_norm (right_fits (HT3.out trivial) HX.out))
    clear hW5 hx6 p0 p1 p2 p3 p4 p5 q0 q1 q2 q3 q4 q5 s0 s1 s2 s3 s4 s5 u0 u1 u2 u3 u4 u5 t0 t1 t2 t3 t4 t5 z0 z1 z2 z3 z4 z5 sa0 sa1 sa2 sa3 sa4 sa5 ua0 ua1 ua2 ua3 ua4 ua5 ta0 ta1 ta2 ta3 ta4 ta5 n1 n2 n3 n4 HX5 HY5
    unfold aggOf at HT
    refine HT.out.mono ?_
    rintro e w6 ⟨v4, v5, rfl, r4, r5, hb6⟩
    have HB6 := Lib.hid (HB5.out.trans (hb6.mono (by have := HZ4.out; have := HZ5.out; omega)))
    obtain ⟨E4, e4, rfl, le4, cc4⟩ := Kd.R_reads r4
    obtain ⟨E5, e5, rfl, le5, cc5⟩ := Kd.R_reads r5
    have hw6 := blk_alloc (blk_below HW5.out hb6) (.cells #[.int .i64 (normN 8 x).f0, .int .i64 (normN 8 x).f1, .float .f64 (normN 8 x).f2, .string (normN 8 x).f3, .slice E4 (normN 8 x).f4.length e4, .slice E5 (normN 8 x).f5.length e5] 26)
    obtain ⟨ta0, ta1, ta2, ta3, ta4, ta5⟩ := cells6 hw6
    have hB7 : Below w.heap.size w (w6.alloc (.cells #[.int .i64 (normN 8 x).f0, .int .i64 (normN 8 x).f1, .float .f64 (normN 8 x).f2, .string (normN 8 x).f3, .slice E4 (normN 8 x).f4.length e4, .slice E5 (normN 8 x).f5.length e5] 26)) := HB6.out.alloc (by have h1 := hb6.size; have := HZ4.out; have := HZ5.out; omega) _
    have HB7 := Lib.hid hB7
    have hal : Below w6.heap.size w6 (w6.alloc (.cells #[.int .i64 (normN 8 x).f0, .int .i64 (normN 8 x).f1, .float .f64 (normN 8 x).f2, .string (normN 8 x).f3, .slice E4 (normN 8 x).f4.length e4, .slice E5 (normN 8 x).f5.length e5] 26)) := (Below.refl _ _).alloc (Nat.le_refl _) _
    have HS := Lib.hid (same_all 8 (normN 8 x) x E4 e4 E5 e5 A4 c4 A5 c5 (w6.alloc (.cells #[.int .i64 (normN 8 x).f0, .int .i64 (normN 8 x).f1, .float .f64 (normN 8 x).f2, .string (normN 8 x).f3, .slice E4 (normN 8 x).f4.length e4, .slice E5 (normN 8 x).f5.length e5] 26)) HFN.out (fits_keys HFN.out) (Kd.C_below cc4 hal) le4 (Kd.C_below cc5 hal) le5 (H4.out.below hB7).1 H4.out.2.1 (H4.out.below hB7).2.2.1 H4.out.2.2.2)
    clear r4 r5 hb6 hw6 HT cc4 cc5 le4 le5 hB7 hal HFN
    go_wp2_with fail
    refine HS.out.mono ?_
    rintro e w8 ⟨r, rfl, hr, hb8⟩
    obtain rfl : r = true := hr.2 HSAME.out
    have HB8 := Lib.hid (HB7.out.trans (hb8.mono (by simp; have := HB6.out.size; omega)))
    clear hr hb8
    go_wp2
    go_ret
    exact ⟨rfl, HB8.out⟩
end Go.Proofs.Ytlefdkemgfjieaa.P
