/- impl.Ternary: one of two values. -/
import Derived.Test.YtlefdkemgfjieaaG7
import Derived.Test.YtlefdkemgfjieaaG9
set_option linter.unusedVariables false
set_option linter.unusedSimpArgs false
namespace Go.Proofs.Ytlefdkemgfjieaa.P
open Go.RowKit Go.Proofs.YtlefdkemgfjieaaW.PrintWords Go.Proofs.YtlefdkemgfjieaaW.PrintLast Go.Proofs.YtlefdkemgfjieaaW.PrintMore
attribute [local go_sem] run_store_float

/-- A value as it is handed over. -/
def aggOf (x : S26) (A4 : Option Addr) (c4 : Nat) (A5 : Option Addr) (c5 : Nat) : Value := .agg #[.int .i64 x.f0, .int .i64 x.f1, .float .f64 x.f2, .string x.f3, .slice A4 x.f4.length c4, .slice A5 x.f5.length c5]
/-- The rows that a value leads to. -/
def RowsAt (x : S26) (A4 : Option Addr) (c4 : Nat) (A5 : Option Addr) (c5 : Nat) (w : World) : Prop := Kd.string.C w A4 x.f4.length x.f4 ∧ x.f4.length ≤ c4 ∧ k26.C w A5 x.f5.length x.f5 ∧ x.f5.length ≤ c5
theorem RowsAt.below {x : S26} {A4 : Option Addr} {c4 : Nat} {A5 : Option Addr} {c5 : Nat} {w w' : World} (h : RowsAt x A4 c4 A5 c5 w) (hb : Below w.heap.size w w') : RowsAt x A4 c4 A5 c5 w' := ⟨Kd.C_below h.1 hb, h.2.1, Kd.C_below h.2.2.1 hb, h.2.2.2⟩
theorem zz1_con (x : S26) (A4 : Option Addr) (c4 : Nat) (A5 : Option Addr) (c5 : Nat) : ∃ r : Bool, ∀ w, RowsAt x A4 c4 A5 c5 w → Calls Try.prog 13 #[aggOf x A4 c4 A5 c5] w fun e w' => e = .returned (.bool r) ∧ Below w.heap.size w w' := by
  obtain ⟨k, r, hk, _⟩ := zz1_tot x
  exact ⟨r, fun w h => laws_zzFits1.calls k _ _ _ _ A4 c4 _ A5 c5 _ r w h.1 h.2.1 h.2.2.1 h.2.2.2 (hk k (Nat.le_refl _))⟩
theorem Right_con (x : S26) (A4 : Option Addr) (c4 : Nat) (A5 : Option Addr) (c5 : Nat) : ∃ r : Bool, (r = true → rightN 8 x) ∧ ∀ w, RowsAt x A4 c4 A5 c5 w → Calls Try.prog 14 #[aggOf x A4 c4 A5 c5] w fun e w' => e = .returned (.bool r) ∧ Below w.heap.size w w' := by
  obtain ⟨k, r, hk, hr⟩ := Right_tot x
  exact ⟨r, hr, fun w h => spec_Right.calls k _ _ _ _ A4 c4 _ A5 c5 _ r w h.1 h.2.1 h.2.2.1 h.2.2.2 (hk k (Nat.le_refl _))⟩
theorem ternary_call (u v : Value) (b : Bool) (w : World) : Calls Try.prog 72 #[u, v, .bool b] w fun e w' => e = .returned (if b then u else v) ∧ Below w.heap.size w w' := by
  cases b
  · go_enter Try.func72, Try.ntmps72
    go_wp2
    go_ret
    exact ⟨rfl, Below.refl _ _⟩
  · go_enter Try.func72, Try.ntmps72
    go_wp2
    go_ret
    exact ⟨rfl, Below.refl _ _⟩
theorem Ternary_call (u v : Value) (b : Bool) (w : World) : Calls Try.prog 47 #[u, v, .bool b] w fun e w' => e = .returned (if b then u else v) ∧ Below w.heap.size w w' := by
  cases b
  · go_enter Try.func47, Try.ntmps47
    go_wp2_with fail
    refine (ternary_call u v false _).mono ?_
    rintro e w1 ⟨rfl, hb⟩
    have HB := Lib.hid hb
    clear hb
    go_wp2
    go_ret
    exact ⟨rfl, HB.out⟩
  · go_enter Try.func47, Try.ntmps47
    go_wp2_with fail
    refine (ternary_call u v true _).mono ?_
    rintro e w1 ⟨rfl, hb⟩
    have HB := Lib.hid hb
    clear hb
    go_wp2
    go_ret
    exact ⟨rfl, HB.out⟩
set_option maxHeartbeats 3200000 in
set_option maxRecDepth 100000 in
theorem implTernary_call {n : Nat} (x y zz : S26) (b : Bool) (hzz : (if b then x else y) = zz) (A4 : Option Addr) (c4 : Nat) (A5 : Option Addr) (c5 : Nat) (B4 : Option Addr) (d4 : Nat) (B5 : Option Addr) (d5 : Nat) (w : World) (hx : fitsN n x) (hy : fitsN n y)
    (h4 : Kd.string.C w A4 x.f4.length x.f4) (hc4 : x.f4.length ≤ c4) (h5 : k26.C w A5 x.f5.length x.f5) (hc5 : x.f5.length ≤ c5) (g4 : Kd.string.C w B4 y.f4.length y.f4) (gc4 : y.f4.length ≤ d4) (g5 : k26.C w B5 y.f5.length y.f5) (gc5 : y.f5.length ≤ d5) :
    Calls Try.prog 15 #[aggOf x A4 c4 A5 c5, aggOf y B4 d4 B5 d5, .bool b] w fun e w' => ∃ v4 v5 : Value, e = .returned (.tuple #[.agg #[.int .i64 (normN n zz).f0, .int .i64 (normN n zz).f1, .float .f64 (normN n zz).f2, .string (normN n zz).f3, v4, v5], .bool true]) ∧
      Kd.R Kd.string 9 w' w.heap.size (fun _ => True) v4 (normN n zz).f4 ∧ Kd.R k26 26 w' w.heap.size (fun k => some k ≠ v4.ownBlock) v5 (normN n zz).f5 ∧ Below w.heap.size w w' := by
  have HZZ := Lib.hid hzz
  clear hzz
  have HX := Lib.hid hx
  have HY := Lib.hid hy
  have H4 := Lib.hid h4
  have H5 := Lib.hid h5
  have G4 := Lib.hid g4
  have G5 := Lib.hid g5
  obtain ⟨W3, hW3⟩ : ∃ W3, W3 = ((w.alloc (.cells #[.int .i64 x.f0, .int .i64 x.f1, .float .f64 x.f2, .string x.f3, .slice A4 x.f4.length c4, .slice A5 x.f5.length c5] 26)).alloc (.cells #[.int .i64 y.f0, .int .i64 y.f1, .float .f64 y.f2, .string y.f3, .slice B4 y.f4.length d4, .slice B5 y.f5.length d5] 26)).alloc zeroCells := ⟨_, rfl⟩
  have hz3 : W3.heap.size = w.heap.size + 3 := by rw [hW3]; simp
  have hB3 : Below w.heap.size w W3 := by rw [hW3]; exact (((Below.refl _ _).alloc (Nat.le_refl _) _).alloc (by simp) _).alloc (by simp; omega) _
  have hb1 : W3.heap[w.heap.size + 1]? = some (.cells #[.int .i64 y.f0, .int .i64 y.f1, .float .f64 y.f2, .string y.f3, .slice B4 y.f4.length d4, .slice B5 y.f5.length d5] 26 (0, 0)) := by
    have := blk_new (w.alloc (.cells #[.int .i64 x.f0, .int .i64 x.f1, .float .f64 x.f2, .string x.f3, .slice A4 x.f4.length c4, .slice A5 x.f5.length c5] 26)) (.cells #[.int .i64 y.f0, .int .i64 y.f1, .float .f64 y.f2, .string y.f3, .slice B4 y.f4.length d4, .slice B5 y.f5.length d5] 26)
    rw [size_alloc1] at this
    rw [hW3]
    exact blk_alloc this _
  have hb2 : W3.heap[w.heap.size + 1 + 1]? = some zeroCells := by
    have := heap_alloc_new ((w.alloc (.cells #[.int .i64 x.f0, .int .i64 x.f1, .float .f64 x.f2, .string x.f3, .slice A4 x.f4.length c4, .slice A5 x.f5.length c5] 26)).alloc (.cells #[.int .i64 y.f0, .int .i64 y.f1, .float .f64 y.f2, .string y.f3, .slice B4 y.f4.length d4, .slice B5 y.f5.length d5] 26)) zeroCells
    rw [size_alloc1, size_alloc1] at this
    rw [hW3]
    exact this
  have HY3 := Lib.hid hb1
  have HZC3 := Lib.hid hb2
  clear hb1 hb2
  have HW3 := Lib.hid hW3
  have HZ3 := Lib.hid hz3
  have HB3 := Lib.hid hB3
  have HCX := Lib.hid (go_all n x A4 c4 A5 c5 W3 hx (Kd.C_below h4 hB3) hc4 (Kd.C_below h5 hB3) hc5)
  clear hx hy h4 h5 g4 g5 hW3 hz3 hB3
  have hz0 : zeroCells = .cells #[.int .i64 0, .int .i64 0, .float .f64 0, .string ⟨#[]⟩, .slice none 0 0, .slice none 0 0] 26 := rfl
  unfold aggOf
  go_enter Try.func15, Try.ntmps15
  go_wp2_with fail
  rw [← hz0, ← HW3.out]
  clear hz0
  refine HCX.out.mono ?_
  rintro e w4 ⟨u, rfl, gu, hb4⟩
  have GU := Lib.hid gu
  have HB4 := Lib.hid (HB3.out.trans (hb4.mono (by rw [HZ3.out]; omega)))
  have HZ4 := Lib.hid (show w.heap.size + 3 ≤ w4.heap.size by have := hb4.size; rw [HZ3.out] at this; omega)
  have HCY := Lib.hid (go_all n y B4 d4 B5 d5 w4 HY.out (Kd.C_below G4.out HB4.out) gc4 (Kd.C_below G5.out HB4.out) gc5)
  have hy4 := blk_below HY3.out hb4
  have HZC4 := Lib.hid (blk_below HZC3.out hb4)
  have q0 := (blk_cell hy4 0).trans rfl
  have q1 := (blk_cell hy4 1).trans rfl
  have q2 := (blk_cell hy4 2).trans rfl
  have q3 := (blk_cell hy4 3).trans rfl
  have q4 := (blk_cell hy4 4).trans rfl
  have q5 := (blk_cell hy4 5).trans rfl
  clear gu hb4 HCX HW3 hy4 HY3
  go_wp2_with fail
  refine HCY.out.mono ?_
  rintro e w5 ⟨v, rfl, gv, hb5⟩
  have GV := Lib.hid gv
  have GU5 := Lib.hid (GU.out.below hb5)
  have HB5 := Lib.hid (HB4.out.trans (hb5.mono (by have := HZ4.out; omega)))
  have HZ5 := Lib.hid (Nat.le_trans HZ4.out hb5.size)
  have HZC5 := Lib.hid (blk_below HZC4.out hb5)
  clear gv hb5 HCY GU q0 q1 q2 q3 q4 q5
  have HFZ := Lib.hid (show fitsN n zz by
    rw [← HZZ.out]
    cases b
    · exact HY.out
    · exact HX.out)
  have HGZ := Lib.hid (show GoN n (fun _ => True) w5 zz (if b then u else v) by
    rw [← HZZ.out]
    cases b
    · exact GV.out.ok (fun _ _ _ => trivial)
    · exact GU5.out.ok (fun _ _ _ => trivial))
  have HT := Lib.hid (Ternary_call u v b w5)
  clear GV GU5 HX HY
  clear HZZ
  generalize (if b then u else v) = rr at *
  go_wp2_with fail
  refine HT.out.mono ?_
  rintro e w6 ⟨rfl, hb6⟩
  have HB6 := Lib.hid (HB5.out.trans (hb6.mono (by have := HZ5.out; omega)))
  have HZ6 := Lib.hid (Nat.le_trans HZ5.out hb6.size)
  have HZC6 := Lib.hid (blk_below HZC5.out hb6)
  have HV := Lib.hid (val_all n zz rr (fun _ => True) w6 HFZ.out (HGZ.out.below hb6))
  clear hb6 HGZ HT HZC5 HZC4 HZC3 HFZ
  go_wp2_with fail
  refine HV.out.mono ?_
  rintro e w7 ⟨v4, v5, rfl, r4, r5, hb7⟩
  obtain ⟨E4, m4, e4, rfl⟩ : ∃ A m c, v4 = .slice A m c := by obtain ⟨A, c, h⟩ := Kd.R_slice r4; exact ⟨A, _, c, h⟩
  obtain ⟨E5, m5, e5, rfl⟩ : ∃ A m c, v5 = .slice A m c := by obtain ⟨A, c, h⟩ := Kd.R_slice r5; exact ⟨A, _, c, h⟩
  have hz6 : w.heap.size + 1 + 1 < w6.heap.size := by have := HZ6.out; omega
  have HR4 := Lib.hid (fun a0 a1 a2 a3 a4 a5 => Kd.R_lower (R_six r4 hz6 a0 a1 a2 a3 a4 a5) (show w.heap.size ≤ w6.heap.size by have := HZ6.out; omega))
  have HR5 := Lib.hid (fun a0 a1 a2 a3 a4 a5 => Kd.R_lower (R_six r5 hz6 a0 a1 a2 a3 a4 a5) (show w.heap.size ≤ w6.heap.size by have := HZ6.out; omega))
  clear hz6
  have HB7 := Lib.hid (HB6.out.trans (hb7.mono (by have := HZ6.out; omega)))
  have hzc7 := blk_below HZC6.out hb7
  have HZC7 := Lib.hid hzc7
  have z0 := blk_frozen hzc7 0
  have z1 := blk_frozen hzc7 1
  have z2 := blk_frozen hzc7 2
  have z3 := blk_frozen hzc7 3
  have z4 := blk_frozen hzc7 4
  have z5 := blk_frozen hzc7 5
  have q0 := (blk_cell hzc7 0).trans rfl
  have q1 := (blk_cell hzc7 1).trans rfl
  have q2 := (blk_cell hzc7 2).trans rfl
  have q3 := (blk_cell hzc7 3).trans rfl
  have q4 := (blk_cell hzc7 4).trans rfl
  have q5 := (blk_cell hzc7 5).trans rfl
  clear r4 r5 hb7 hzc7 HV HZC6
  go_wp2
  refine bodyPost_ret (v := .tuple #[.agg #[.int .i64 (normN n zz).f0, .int .i64 (normN n zz).f1, .float .f64 (normN n zz).f2, .string (normN n zz).f3, .slice E4 m4 e4, .slice E5 m5 e5], .bool true]) (by simp [results, Try.results15, go_sem, q0, q1, q2, q3, q4, q5]) rfl ?_
  exact ⟨_, _, rfl, HR4.out _ _ _ _ _ _, HR5.out _ _ _ _ _ _, below_six HB7.out (by omega) _ _ _ _ _ _⟩
end Go.Proofs.Ytlefdkemgfjieaa.P
