/- FnToInt holds. -/
import Derived.Test.YtbjoipclkapcjaaGreatDoorTi7
import Derived.Test.YtbjoipclkapcjaaGreatDoorPx6
set_option linter.unusedVariables false
set_option linter.unusedSimpArgs false
namespace Go.Proofs.YtbjoipclkapcjaaGreatDoor.P
open Go.RowKit Go.Proofs.YtbjoipclkapcjaaGreatDoorW.PrintWords Go.Proofs.YtbjoipclkapcjaaGreatDoorW.PrintLast Go.Proofs.YtbjoipclkapcjaaGreatDoorW.PrintMore
attribute [local go_sem] run_store_float

theorem bstep {g : Nat} {w w1 w2 : World} (hg : w.heap.size = g) (h : Below g w w1) (hb : Below w1.heap.size w1 w2) : Below g w w2 := by
  subst hg
  exact h.trans (hb.mono h.size)
theorem order_fin (n : Int) (h1 : -1000000000000000 < n) (h2 : n < 1000000000000000) : FloatKind.f64.format.order (floatOfInt .f64 n) (floatOfInt .f64 n) = some Ordering.eq := by
  obtain ⟨s, m, p, h⟩ := fin_word n h1 h2
  unfold FloatKind.decode at h
  unfold Ieee.Format.order
  rw [h]
  show some (compare _ _) = _
  simp
theorem dec_call (n : Int) (h1 : -1000000000000000 < n) (h2 : n < 1000000000000000) : ∃ s, TX n s ∧ ∀ w : World, TabsW w → Calls Tryz.prog 4 #[.int .i64 n] w fun e w' => e = .returned (.string s) ∧ Below w.heap.size w w' := by
  refine ⟨⟨(Lib.itoa n).toArray⟩, dg_itoa n h1 h2, fun w hW => spec_Decimal.calls n _ w ?_ hW⟩
  unfold spec_Decimal.f
  have e : strconv_FormatInt_8.f n 10 = some ⟨(Lib.itoa n).toArray⟩ := by
    unfold strconv_FormatInt_8.f
    rw [if_pos ⟨by omega, by omega, rfl⟩]
  rw [e]
  rfl
set_option maxHeartbeats 3200000 in
set_option maxRecDepth 100000 in
theorem fnToInt (n : Int) (w : World) (hw : (Lit.int IntKind.i64 n).wf = true) (hT : TabsW w) (hF : TabsF w) :
    Calls Tryz.prog 3 #[.int .i64 n] w fun e w' => e = .returned (.bool true) ∧ Below w.heap.size w w' := by
  have HT := Lib.hid hT
  have HF := Lib.hid hF
  have HB := Lib.hid (Below.refl w.heap.size w)
  clear hT hF hw
  by_cases c1 : 1000000000000000 ≤ n
  · have d1 : decide (1000000000000000 ≤ n) = true := decide_eq_true c1
    go_enter Tryz.func3, Tryz.ntmps3
    go_wp2
    go_ret
    exact ⟨rfl, HB.out⟩
  have d1 : decide (1000000000000000 ≤ n) = false := decide_eq_false c1
  by_cases c2 : n ≤ -1000000000000000
  · have d2 : decide (n ≤ -1000000000000000) = true := decide_eq_true c2
    go_enter Tryz.func3, Tryz.ntmps3
    go_wp2
    go_ret
    exact ⟨rfl, HB.out⟩
  have d2 : decide (n ≤ -1000000000000000) = false := decide_eq_false c2
  have h1 : -1000000000000000 < n := by omega
  have h2 : n < 1000000000000000 := by omega
  obtain ⟨s, hX, hdec⟩ := dec_call n h1 h2
  have HD := Lib.hid (hdec w HT.out)
  have hord := order_fin n h1 h2
  have HToInt_int := Lib.hid (fun W => implToInt_int n h1 h2 W)
  have HToInt_int64 := Lib.hid (fun W => implToInt_int64 n h1 h2 W)
  have HToInt_real := Lib.hid (fun W => implToInt_real n h1 h2 W)
  have HToInt_text := Lib.hid (fun W => implToInt_text n s hX W)
  have HToInt64_int := Lib.hid (fun W => implToInt64_int n h1 h2 W)
  have HToInt64_int64 := Lib.hid (fun W => implToInt64_int64 n h1 h2 W)
  have HToInt64_real := Lib.hid (fun W => implToInt64_real n h1 h2 W)
  have HToInt64_text := Lib.hid (fun W => implToInt64_text n s hX W)
  have HToFloat_int := Lib.hid (fun W => implToFloat_int n h1 h2 W)
  have HToFloat_int64 := Lib.hid (fun W => implToFloat_int64 n h1 h2 W)
  have HToFloat_real := Lib.hid (fun W => implToFloat_real n h1 h2 W)
  have HToFloat_text := Lib.hid (fun W hW => implToFloat_text n s hX W hW)
  have H5 := Lib.hid (fun W => implToInt_int 5 (by omega) (by omega) W)
  have hcv0 : ∀ W : World, (convert 2 22 (.int .i64 n)).run Tryz.prog W = .ok (.float .f64 (floatOfInt .f64 n)) W := fun W => run_convert_int_float W _ _ .i64 .f64 n (by rw [Tryz.underlying2]; rfl) Tryz.underlying22
  obtain ⟨R, hR⟩ : ∃ R : Nat, R = floatOfInt .f64 n := ⟨_, rfl⟩
  simp only [← hR] at *
  have hcv : ∀ W : World, (convert 2 22 (.int .i64 n)).run Tryz.prog W = .ok (.float .f64 R) W := hcv0
  clear hcv0 hR hdec hX h1 h2 c1 c2
  go_enter Tryz.func3, Tryz.ntmps3
  go_wp2_with fail
  refine HD.out.mono ?_
  rintro e w1 ⟨rfl, hb⟩
  have HB1 := Lib.hid hb
  have HF1 := Lib.hid (HF.out.below hb)
  clear hb HB HD HF HT
  have HB2 := Lib.hid (HB1.out.alloc HB1.out.size (.cells #[.int .i64 2, .int .i64 n, .float .f64 0, .string ⟨#[]⟩, .slice none 0 0, .slice none 0 0, .int .i64 3, .int .i64 n, .float .f64 0, .string ⟨#[]⟩, .slice none 0 0, .slice none 0 0, .int .i64 4, .int .i64 0, .float .f64 R, .string ⟨#[]⟩, .slice none 0 0, .slice none 0 0, .int .i64 5, .int .i64 0, .float .f64 0, .string s, .slice none 0 0, .slice none 0 0] 26))
  have HF2 := Lib.hid (HF1.out.below ((Below.refl w1.heap.size w1).alloc (Nat.le_refl _) (.cells #[.int .i64 2, .int .i64 n, .float .f64 0, .string ⟨#[]⟩, .slice none 0 0, .slice none 0 0, .int .i64 3, .int .i64 n, .float .f64 0, .string ⟨#[]⟩, .slice none 0 0, .slice none 0 0, .int .i64 4, .int .i64 0, .float .f64 R, .string ⟨#[]⟩, .slice none 0 0, .slice none 0 0, .int .i64 5, .int .i64 0, .float .f64 0, .string s, .slice none 0 0, .slice none 0 0] 26)))
  have HK2 := Lib.hid (heap_alloc_new w1 (.cells #[.int .i64 2, .int .i64 n, .float .f64 0, .string ⟨#[]⟩, .slice none 0 0, .slice none 0 0, .int .i64 3, .int .i64 n, .float .f64 0, .string ⟨#[]⟩, .slice none 0 0, .slice none 0 0, .int .i64 4, .int .i64 0, .float .f64 R, .string ⟨#[]⟩, .slice none 0 0, .slice none 0 0, .int .i64 5, .int .i64 0, .float .f64 0, .string s, .slice none 0 0, .slice none 0 0] 26))
  go_upto_region 4 with fail
  generalize w1.alloc (.cells #[.int .i64 2, .int .i64 n, .float .f64 0, .string ⟨#[]⟩, .slice none 0 0, .slice none 0 0, .int .i64 3, .int .i64 n, .float .f64 0, .string ⟨#[]⟩, .slice none 0 0, .slice none 0 0, .int .i64 4, .int .i64 0, .float .f64 R, .string ⟨#[]⟩, .slice none 0 0, .slice none 0 0, .int .i64 5, .int .i64 0, .float .f64 0, .string s, .slice none 0 0, .slice none 0 0] 26) = w2 at *
  generalize hgg : w1.heap.size = g at *
  go_wp2
  go_loopw [4] (fun i wr => ∃ k : Nat, i = .int .i64 k ∧ k ≤ 4 ∧ Hid (Below w.heap.size w wr) ∧ Hid (wr.heap[g]? = some (.cells #[.int .i64 2, .int .i64 n, .float .f64 0, .string ⟨#[]⟩, .slice none 0 0, .slice none 0 0, .int .i64 3, .int .i64 n, .float .f64 0, .string ⟨#[]⟩, .slice none 0 0, .slice none 0 0, .int .i64 4, .int .i64 0, .float .f64 R, .string ⟨#[]⟩, .slice none 0 0, .slice none 0 0, .int .i64 5, .int .i64 0, .float .f64 0, .string s, .slice none 0 0, .slice none 0 0] 26 (0, 0))) ∧ Hid (TabsF wr)) (fun i _ => 4 - (intOf i).toNat)
  case atStart => exact ⟨0, rfl, Nat.zero_le _, HB2, HK2, HF2⟩
  case round =>
    clear HB2 HK2 HF2
    obtain ⟨k, rfl, hk, hW, HK, hE⟩ := hrel
    have hkk : k = 0 ∨ k = 1 ∨ k = 2 ∨ k = 3 ∨ k = 4 := by omega
    rcases hkk with h | h | h | h | h
    · obtain rfl : k = 0 := by omega
      have x0 : wr.cell? ⟨g, 0, none⟩ = some (.int .i64 2) := by rw [blk_cell HK.out 0]; rfl
      have x1 : wr.cell? ⟨g, 1, none⟩ = some (.int .i64 n) := by rw [blk_cell HK.out 1]; rfl
      have x2 : wr.cell? ⟨g, 2, none⟩ = some (.float .f64 0) := by rw [blk_cell HK.out 2]; rfl
      have x3 : wr.cell? ⟨g, 3, none⟩ = some (.string ⟨#[]⟩) := by rw [blk_cell HK.out 3]; rfl
      have x4 : wr.cell? ⟨g, 4, none⟩ = some (.slice none 0 0) := by rw [blk_cell HK.out 4]; rfl
      have x5 : wr.cell? ⟨g, 5, none⟩ = some (.slice none 0 0) := by rw [blk_cell HK.out 5]; rfl
      go_wp2_with fail
      refine (HToInt_int.out _).mono ?_
      rintro e w3 ⟨rfl, hb⟩
      have hW3 := Lib.hid (hW.out.trans (hb.mono hW.out.size))
      have hE3 := Lib.hid (hE.out.below hb)
      replace HK := Lib.hid (blk_below HK.out hb)
      clear hb hW hE x0 x1 x2 x3 x4 x5
      have x0 : w3.cell? ⟨g, 0, none⟩ = some (.int .i64 2) := by rw [blk_cell HK.out 0]; rfl
      have x1 : w3.cell? ⟨g, 1, none⟩ = some (.int .i64 n) := by rw [blk_cell HK.out 1]; rfl
      have x2 : w3.cell? ⟨g, 2, none⟩ = some (.float .f64 0) := by rw [blk_cell HK.out 2]; rfl
      have x3 : w3.cell? ⟨g, 3, none⟩ = some (.string ⟨#[]⟩) := by rw [blk_cell HK.out 3]; rfl
      have x4 : w3.cell? ⟨g, 4, none⟩ = some (.slice none 0 0) := by rw [blk_cell HK.out 4]; rfl
      have x5 : w3.cell? ⟨g, 5, none⟩ = some (.slice none 0 0) := by rw [blk_cell HK.out 5]; rfl
      go_wp2_with fail
      refine (HToInt64_int.out _).mono ?_
      rintro e w4 ⟨rfl, hb⟩
      have hW4 := Lib.hid (hW3.out.trans (hb.mono hW3.out.size))
      have hE4 := Lib.hid (hE3.out.below hb)
      replace HK := Lib.hid (blk_below HK.out hb)
      clear hb hW3 hE3 x0 x1 x2 x3 x4 x5
      have x0 : w4.cell? ⟨g, 0, none⟩ = some (.int .i64 2) := by rw [blk_cell HK.out 0]; rfl
      have x1 : w4.cell? ⟨g, 1, none⟩ = some (.int .i64 n) := by rw [blk_cell HK.out 1]; rfl
      have x2 : w4.cell? ⟨g, 2, none⟩ = some (.float .f64 0) := by rw [blk_cell HK.out 2]; rfl
      have x3 : w4.cell? ⟨g, 3, none⟩ = some (.string ⟨#[]⟩) := by rw [blk_cell HK.out 3]; rfl
      have x4 : w4.cell? ⟨g, 4, none⟩ = some (.slice none 0 0) := by rw [blk_cell HK.out 4]; rfl
      have x5 : w4.cell? ⟨g, 5, none⟩ = some (.slice none 0 0) := by rw [blk_cell HK.out 5]; rfl
      go_wp2_with fail
      refine (HToFloat_int.out _).mono ?_
      rintro e w5 ⟨rfl, hb⟩
      have hW5 := Lib.hid (hW4.out.trans (hb.mono hW4.out.size))
      have hE5 := Lib.hid (hE4.out.below hb)
      replace HK := Lib.hid (blk_below HK.out hb)
      clear hb hW4 hE4 x0 x1 x2 x3 x4 x5
      go_wp2
      go_roundw
      case rel => exact ⟨1, rfl, by decide, hW5, HK, hE5⟩
      case measure => simp [intOf]
    · obtain rfl : k = 1 := by omega
      have x0 : wr.cell? ⟨g, 6, none⟩ = some (.int .i64 3) := by rw [blk_cell HK.out 6]; rfl
      have x1 : wr.cell? ⟨g, 7, none⟩ = some (.int .i64 n) := by rw [blk_cell HK.out 7]; rfl
      have x2 : wr.cell? ⟨g, 8, none⟩ = some (.float .f64 0) := by rw [blk_cell HK.out 8]; rfl
      have x3 : wr.cell? ⟨g, 9, none⟩ = some (.string ⟨#[]⟩) := by rw [blk_cell HK.out 9]; rfl
      have x4 : wr.cell? ⟨g, 10, none⟩ = some (.slice none 0 0) := by rw [blk_cell HK.out 10]; rfl
      have x5 : wr.cell? ⟨g, 11, none⟩ = some (.slice none 0 0) := by rw [blk_cell HK.out 11]; rfl
      go_wp2_with fail
      refine (HToInt_int64.out _).mono ?_
      rintro e w3 ⟨rfl, hb⟩
      have hW3 := Lib.hid (hW.out.trans (hb.mono hW.out.size))
      have hE3 := Lib.hid (hE.out.below hb)
      replace HK := Lib.hid (blk_below HK.out hb)
      clear hb hW hE x0 x1 x2 x3 x4 x5
      have x0 : w3.cell? ⟨g, 6, none⟩ = some (.int .i64 3) := by rw [blk_cell HK.out 6]; rfl
      have x1 : w3.cell? ⟨g, 7, none⟩ = some (.int .i64 n) := by rw [blk_cell HK.out 7]; rfl
      have x2 : w3.cell? ⟨g, 8, none⟩ = some (.float .f64 0) := by rw [blk_cell HK.out 8]; rfl
      have x3 : w3.cell? ⟨g, 9, none⟩ = some (.string ⟨#[]⟩) := by rw [blk_cell HK.out 9]; rfl
      have x4 : w3.cell? ⟨g, 10, none⟩ = some (.slice none 0 0) := by rw [blk_cell HK.out 10]; rfl
      have x5 : w3.cell? ⟨g, 11, none⟩ = some (.slice none 0 0) := by rw [blk_cell HK.out 11]; rfl
      go_wp2_with fail
      refine (HToInt64_int64.out _).mono ?_
      rintro e w4 ⟨rfl, hb⟩
      have hW4 := Lib.hid (hW3.out.trans (hb.mono hW3.out.size))
      have hE4 := Lib.hid (hE3.out.below hb)
      replace HK := Lib.hid (blk_below HK.out hb)
      clear hb hW3 hE3 x0 x1 x2 x3 x4 x5
      have x0 : w4.cell? ⟨g, 6, none⟩ = some (.int .i64 3) := by rw [blk_cell HK.out 6]; rfl
      have x1 : w4.cell? ⟨g, 7, none⟩ = some (.int .i64 n) := by rw [blk_cell HK.out 7]; rfl
      have x2 : w4.cell? ⟨g, 8, none⟩ = some (.float .f64 0) := by rw [blk_cell HK.out 8]; rfl
      have x3 : w4.cell? ⟨g, 9, none⟩ = some (.string ⟨#[]⟩) := by rw [blk_cell HK.out 9]; rfl
      have x4 : w4.cell? ⟨g, 10, none⟩ = some (.slice none 0 0) := by rw [blk_cell HK.out 10]; rfl
      have x5 : w4.cell? ⟨g, 11, none⟩ = some (.slice none 0 0) := by rw [blk_cell HK.out 11]; rfl
      go_wp2_with fail
      refine (HToFloat_int64.out _).mono ?_
      rintro e w5 ⟨rfl, hb⟩
      have hW5 := Lib.hid (hW4.out.trans (hb.mono hW4.out.size))
      have hE5 := Lib.hid (hE4.out.below hb)
      replace HK := Lib.hid (blk_below HK.out hb)
      clear hb hW4 hE4 x0 x1 x2 x3 x4 x5
      go_wp2
      go_roundw
      case rel => exact ⟨2, rfl, by decide, hW5, HK, hE5⟩
      case measure => simp [intOf]
    · obtain rfl : k = 2 := by omega
      have x0 : wr.cell? ⟨g, 12, none⟩ = some (.int .i64 4) := by rw [blk_cell HK.out 12]; rfl
      have x1 : wr.cell? ⟨g, 13, none⟩ = some (.int .i64 0) := by rw [blk_cell HK.out 13]; rfl
      have x2 : wr.cell? ⟨g, 14, none⟩ = some (.float .f64 R) := by rw [blk_cell HK.out 14]; rfl
      have x3 : wr.cell? ⟨g, 15, none⟩ = some (.string ⟨#[]⟩) := by rw [blk_cell HK.out 15]; rfl
      have x4 : wr.cell? ⟨g, 16, none⟩ = some (.slice none 0 0) := by rw [blk_cell HK.out 16]; rfl
      have x5 : wr.cell? ⟨g, 17, none⟩ = some (.slice none 0 0) := by rw [blk_cell HK.out 17]; rfl
      go_wp2_with fail
      refine (HToInt_real.out _).mono ?_
      rintro e w3 ⟨rfl, hb⟩
      have hW3 := Lib.hid (hW.out.trans (hb.mono hW.out.size))
      have hE3 := Lib.hid (hE.out.below hb)
      replace HK := Lib.hid (blk_below HK.out hb)
      clear hb hW hE x0 x1 x2 x3 x4 x5
      have x0 : w3.cell? ⟨g, 12, none⟩ = some (.int .i64 4) := by rw [blk_cell HK.out 12]; rfl
      have x1 : w3.cell? ⟨g, 13, none⟩ = some (.int .i64 0) := by rw [blk_cell HK.out 13]; rfl
      have x2 : w3.cell? ⟨g, 14, none⟩ = some (.float .f64 R) := by rw [blk_cell HK.out 14]; rfl
      have x3 : w3.cell? ⟨g, 15, none⟩ = some (.string ⟨#[]⟩) := by rw [blk_cell HK.out 15]; rfl
      have x4 : w3.cell? ⟨g, 16, none⟩ = some (.slice none 0 0) := by rw [blk_cell HK.out 16]; rfl
      have x5 : w3.cell? ⟨g, 17, none⟩ = some (.slice none 0 0) := by rw [blk_cell HK.out 17]; rfl
      go_wp2_with fail
      refine (HToInt64_real.out _).mono ?_
      rintro e w4 ⟨rfl, hb⟩
      have hW4 := Lib.hid (hW3.out.trans (hb.mono hW3.out.size))
      have hE4 := Lib.hid (hE3.out.below hb)
      replace HK := Lib.hid (blk_below HK.out hb)
      clear hb hW3 hE3 x0 x1 x2 x3 x4 x5
      have x0 : w4.cell? ⟨g, 12, none⟩ = some (.int .i64 4) := by rw [blk_cell HK.out 12]; rfl
      have x1 : w4.cell? ⟨g, 13, none⟩ = some (.int .i64 0) := by rw [blk_cell HK.out 13]; rfl
      have x2 : w4.cell? ⟨g, 14, none⟩ = some (.float .f64 R) := by rw [blk_cell HK.out 14]; rfl
      have x3 : w4.cell? ⟨g, 15, none⟩ = some (.string ⟨#[]⟩) := by rw [blk_cell HK.out 15]; rfl
      have x4 : w4.cell? ⟨g, 16, none⟩ = some (.slice none 0 0) := by rw [blk_cell HK.out 16]; rfl
      have x5 : w4.cell? ⟨g, 17, none⟩ = some (.slice none 0 0) := by rw [blk_cell HK.out 17]; rfl
      go_wp2_with fail
      refine (HToFloat_real.out _).mono ?_
      rintro e w5 ⟨rfl, hb⟩
      have hW5 := Lib.hid (hW4.out.trans (hb.mono hW4.out.size))
      have hE5 := Lib.hid (hE4.out.below hb)
      replace HK := Lib.hid (blk_below HK.out hb)
      clear hb hW4 hE4 x0 x1 x2 x3 x4 x5
      go_wp2
      go_roundw
      case rel => exact ⟨3, rfl, by decide, hW5, HK, hE5⟩
      case measure => simp [intOf]
    · obtain rfl : k = 3 := by omega
      have x0 : wr.cell? ⟨g, 18, none⟩ = some (.int .i64 5) := by rw [blk_cell HK.out 18]; rfl
      have x1 : wr.cell? ⟨g, 19, none⟩ = some (.int .i64 0) := by rw [blk_cell HK.out 19]; rfl
      have x2 : wr.cell? ⟨g, 20, none⟩ = some (.float .f64 0) := by rw [blk_cell HK.out 20]; rfl
      have x3 : wr.cell? ⟨g, 21, none⟩ = some (.string s) := by rw [blk_cell HK.out 21]; rfl
      have x4 : wr.cell? ⟨g, 22, none⟩ = some (.slice none 0 0) := by rw [blk_cell HK.out 22]; rfl
      have x5 : wr.cell? ⟨g, 23, none⟩ = some (.slice none 0 0) := by rw [blk_cell HK.out 23]; rfl
      go_wp2_with fail
      refine (HToInt_text.out _).mono ?_
      rintro e w3 ⟨rfl, hb⟩
      have hW3 := Lib.hid (hW.out.trans (hb.mono hW.out.size))
      have hE3 := Lib.hid (hE.out.below hb)
      replace HK := Lib.hid (blk_below HK.out hb)
      clear hb hW hE x0 x1 x2 x3 x4 x5
      have x0 : w3.cell? ⟨g, 18, none⟩ = some (.int .i64 5) := by rw [blk_cell HK.out 18]; rfl
      have x1 : w3.cell? ⟨g, 19, none⟩ = some (.int .i64 0) := by rw [blk_cell HK.out 19]; rfl
      have x2 : w3.cell? ⟨g, 20, none⟩ = some (.float .f64 0) := by rw [blk_cell HK.out 20]; rfl
      have x3 : w3.cell? ⟨g, 21, none⟩ = some (.string s) := by rw [blk_cell HK.out 21]; rfl
      have x4 : w3.cell? ⟨g, 22, none⟩ = some (.slice none 0 0) := by rw [blk_cell HK.out 22]; rfl
      have x5 : w3.cell? ⟨g, 23, none⟩ = some (.slice none 0 0) := by rw [blk_cell HK.out 23]; rfl
      go_wp2_with fail
      refine (HToInt64_text.out _).mono ?_
      rintro e w4 ⟨rfl, hb⟩
      have hW4 := Lib.hid (hW3.out.trans (hb.mono hW3.out.size))
      have hE4 := Lib.hid (hE3.out.below hb)
      replace HK := Lib.hid (blk_below HK.out hb)
      clear hb hW3 hE3 x0 x1 x2 x3 x4 x5
      have x0 : w4.cell? ⟨g, 18, none⟩ = some (.int .i64 5) := by rw [blk_cell HK.out 18]; rfl
      have x1 : w4.cell? ⟨g, 19, none⟩ = some (.int .i64 0) := by rw [blk_cell HK.out 19]; rfl
      have x2 : w4.cell? ⟨g, 20, none⟩ = some (.float .f64 0) := by rw [blk_cell HK.out 20]; rfl
      have x3 : w4.cell? ⟨g, 21, none⟩ = some (.string s) := by rw [blk_cell HK.out 21]; rfl
      have x4 : w4.cell? ⟨g, 22, none⟩ = some (.slice none 0 0) := by rw [blk_cell HK.out 22]; rfl
      have x5 : w4.cell? ⟨g, 23, none⟩ = some (.slice none 0 0) := by rw [blk_cell HK.out 23]; rfl
      go_wp2_with fail
      refine (HToFloat_text.out _ hE4.out).mono ?_
      rintro e w5 ⟨rfl, hb⟩
      have hW5 := Lib.hid (hW4.out.trans (hb.mono hW4.out.size))
      have hE5 := Lib.hid (hE4.out.below hb)
      replace HK := Lib.hid (blk_below HK.out hb)
      clear hb hW4 hE4 x0 x1 x2 x3 x4 x5
      go_wp2
      go_roundw
      case rel => exact ⟨4, rfl, by decide, hW5, HK, hE5⟩
      case measure => simp [intOf]
    · obtain rfl : k = 4 := by omega
      clear HK hE
      go_wp2_with fail
      refine (H5.out _).mono ?_
      rintro e w6 ⟨rfl, hb⟩
      have HB6 := Lib.hid (hW.out.trans (hb.mono hW.out.size))
      clear hb hW
      go_wp2
      go_ret
      exact ⟨rfl, HB6.out⟩
end Go.Proofs.YtbjoipclkapcjaaGreatDoor.P
