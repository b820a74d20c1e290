/- impl.Get. -/
import Derived.Test.YtlefdkemgfjieaaE2
set_option linter.unusedVariables false
set_option linter.unusedSimpArgs false
namespace Go.Proofs.Ytlefdkemgfjieaa.P
open Go.RowKit Go.Proofs.YtlefdkemgfjieaaW.PrintWords Go.Proofs.YtlefdkemgfjieaaW.PrintLast Go.Proofs.YtlefdkemgfjieaaW.PrintMore
attribute [local go_sem] run_store_float

/-- The empty text as a value. -/
def noText : S26 := ⟨5, 0, 0, ⟨#[]⟩, [], []⟩
theorem noText_right (n : Nat) : rightN (n + 1) noText := ⟨by decide, by decide, by decide, by decide, (fun k hk => by cases hk), (fun i hi => absurd hi (by simp [noText])), (fun h => absurd h (by decide)), (fun _ => rfl), (fun _ _ => rfl), (fun _ => rfl), (fun _ _ _ => rfl), (fun h => absurd h (by decide)), (fun _ => real_refl 0)⟩
theorem noText_whole : Whole64 noText := .mk _ (by decide) (by decide) (fun y hy => by cases hy)
/-- What Get answers. -/
def gotOf (x : S26) (r : Int × Bool) : S26 := bif r.2 then rd_T26 x.f5 r.1 else noText
theorem got_fits {x : S26} (h7 : x.f0 = 7) (hx : fitsN 8 x) {key : ByteArray} {r : Int × Bool} (hr : AtOk x.f4 key r) : fitsN 7 (gotOf x r) := by
  unfold gotOf
  cases hb : r.2 with
  | false => exact right_fits (noText_right 6) noText_whole
  | true =>
    obtain ⟨i, h1, h2, -⟩ := hr.1 hb
    have h3 := (hx.2.2.2.2.2.2.1 h7).1
    have := hx.2.2.2.2.2.1 i (by omega)
    rw [h1]
    simpa [rd_T26] using this
theorem got_right {x : S26} (h7 : x.f0 = 7) (hx : rightN 8 x) {key : ByteArray} {r : Int × Bool} (hr : AtOk x.f4 key r) : rightN 7 (gotOf x r) := by
  unfold gotOf
  cases hb : r.2 with
  | false => exact noText_right 6
  | true =>
    obtain ⟨i, h1, h2, -⟩ := hr.1 hb
    have h3 := (hx.2.2.2.2.2.2.1 h7).1
    have := hx.2.2.2.2.2.1 i (by omega)
    rw [h1]
    simpa [rd_T26] using this
set_option maxHeartbeats 3200000 in
set_option maxRecDepth 100000 in
theorem implGet_call (x zz : S26) (h7 : x.f0 = 7) (key : ByteArray) (hkey : key.size ≤ 300) (ri : Int) (rb : Bool) (hrr : AtOk x.f4 key (ri, rb)) (hzz : gotOf x (ri, rb) = zz) (A4 : Option Addr) (c4 : Nat) (A5 : Option Addr) (c5 : Nat) (w : World) (hx : fitsN 8 x) (hr : RowsAt x A4 c4 A5 c5 w) :
    Calls Try.prog 20 #[aggOf x A4 c4 A5 c5, .string key] w fun e w' => ∃ v4 v5 : Value, e = .returned (.tuple #[.agg #[.int .i64 (normN 7 zz).f0, .int .i64 (normN 7 zz).f1, .float .f64 (normN 7 zz).f2, .string (normN 7 zz).f3, v4, v5], .bool true]) ∧
      Kd.R Kd.string 9 w' w.heap.size (fun _ => True) v4 (normN 7 zz).f4 ∧ Kd.R k26 26 w' w.heap.size (fun k => some k ≠ v4.ownBlock) v5 (normN 7 zz).f5 ∧ Below w.heap.size w w' := by
  obtain ⟨W3, hW3⟩ : ∃ W3, W3 = (w.alloc (.cells #[.int .i64 7, .int .i64 x.f1, .float .f64 x.f2, .string x.f3, .slice A4 x.f4.length c4, .slice A5 x.f5.length c5] 26)).alloc zeroCells := ⟨_, rfl⟩
  have hz3 : W3.heap.size = w.heap.size + 2 := by rw [hW3]; simp
  have hB3 : Below w.heap.size w W3 := by rw [hW3]; exact ((Below.refl _ _).alloc (Nat.le_refl _) _).alloc (by simp) _
  have hb2 : W3.heap[w.heap.size + 1]? = some zeroCells := by
    have := heap_alloc_new (w.alloc (.cells #[.int .i64 7, .int .i64 x.f1, .float .f64 x.f2, .string x.f3, .slice A4 x.f4.length c4, .slice A5 x.f5.length c5] 26)) zeroCells
    rw [size_alloc1] at this
    rw [hW3]
    exact this
  have HZC3 := Lib.hid hb2
  have HW3 := Lib.hid hW3
  have HZ3 := Lib.hid hz3
  have HB3 := Lib.hid hB3
  have HG := Lib.hid (goDict_con x h7 A4 c4 A5 c5 W3 hx (hr.below hB3))
  have HX := Lib.hid (hx.2.2.2.2.2.2.1 h7)
  have HRR := Lib.hid hrr
  have HFZ := Lib.hid (got_fits h7 hx hrr)
  have HZZ := Lib.hid hzz
  unfold aggOf
  rw [h7]
  clear hW3 hz3 hB3 hb2 hx hr h7 hrr hzz
  have hz0 : zeroCells = .cells #[.int .i64 0, .int .i64 0, .float .f64 0, .string ⟨#[]⟩, .slice none 0 0, .slice none 0 0] 26 := rfl
  go_enter Try.func20, Try.ntmps20
  go_wp2_with fail
  rw [← hz0, ← HW3.out]
  clear hz0 HW3
  refine HG.out.mono ?_
  rintro e w4 ⟨u, rfl, hm, hb4⟩
  have HB4 := Lib.hid (HB3.out.trans (hb4.mono HB3.out.size))
  have HZ4 := Lib.hid (show w.heap.size + 2 ≤ w4.heap.size by have := hb4.size; rw [HZ3.out] at this; omega)
  have HZC4 := Lib.hid (blk_below HZC3.out hb4)
  obtain ⟨b, m, vs, rfl, -, hvs, hks, -, ho, hel⟩ := hm
  obtain ⟨v, hlk, hv⟩ := look_dict ho (by rw [hks, hvs]) HX.out.2 hkey HRR.out
  have hgo : GoN 7 (fun _ => True) w4 (gotOf x (ri, rb)) (bif rb then v else .iface 9 (.string ⟨#[]⟩)) := by
    unfold gotOf
    cases hb : rb with
    | false => exact .inr (.inr (.inr (.inr (.inr (.inl ⟨rfl, rfl⟩)))))
    | true =>
      rw [hb] at HRR hv
      obtain ⟨i, h1, h2, -⟩ := HRR.out.1 rfl
      obtain ⟨h3, h4⟩ := hv i rfl h1
      have h5 := hel i (by rw [← hks]; exact h2)
      simp only at h1
      subst h1
      simp only [cond_true]
      rw [h4]
      exact GoN.ok (by simpa [rd_T26] using h5) (fun _ _ _ => trivial)
  rw [HZZ.out] at hgo
  have HGO := Lib.hid hgo
  have HH := Lib.hid (Get_call rb hlk)
  have HFZ2 := Lib.hid (show fitsN 7 zz by rw [← HZZ.out]; exact HFZ.out)
  clear hb4 HG hvs hks ho hlk hv hel hgo HZC3 HFZ HZZ HRR HX
  generalize (bif rb then v else .iface 9 (.string ⟨#[]⟩)) = rr at *
  go_wp2_with fail
  refine HH.out.mono ?_
  rintro e w6 ⟨rfl, hb6⟩
  have HB6 := Lib.hid (HB4.out.trans (hb6.mono HB4.out.size))
  have HZ6 := Lib.hid (Nat.le_trans HZ4.out hb6.size)
  have HZC6 := Lib.hid (blk_below HZC4.out hb6)
  have HV := Lib.hid (val_all 7 zz rr (fun _ => True) w6 HFZ2.out (HGO.out.below hb6))
  clear hb6 HGO HH HZC4 HFZ2
  go_wp2_with fail
  refine HV.out.mono ?_
  rintro e w7 ⟨v4, v5, rfl, r4, r5, hb7⟩
  obtain ⟨E4, m4, e4, rfl⟩ : ∃ A m c, v4 = .slice A m c := by obtain ⟨A, c, h⟩ := Kd.R_slice r4; exact ⟨A, _, c, h⟩
  obtain ⟨E5, m5, e5, rfl⟩ : ∃ A m c, v5 = .slice A m c := by obtain ⟨A, c, h⟩ := Kd.R_slice r5; exact ⟨A, _, c, h⟩
  have hz6 : w.heap.size + 1 < w6.heap.size := by have := HZ6.out; omega
  have HR4 := Lib.hid (fun a0 a1 a2 a3 a4 a5 => Kd.R_lower (R_six r4 hz6 a0 a1 a2 a3 a4 a5) (show w.heap.size ≤ w6.heap.size by have := HZ6.out; omega))
  have HR5 := Lib.hid (fun a0 a1 a2 a3 a4 a5 => Kd.R_lower (R_six r5 hz6 a0 a1 a2 a3 a4 a5) (show w.heap.size ≤ w6.heap.size by have := HZ6.out; omega))
  clear hz6
  have HB7 := Lib.hid (HB6.out.trans (hb7.mono (by have := HZ6.out; omega)))
  have hzc7 := blk_below HZC6.out hb7
  have HZC7 := Lib.hid hzc7
  have z0 := blk_frozen hzc7 0
  have z1 := blk_frozen hzc7 1
  have z2 := blk_frozen hzc7 2
  have z3 := blk_frozen hzc7 3
  have z4 := blk_frozen hzc7 4
  have z5 := blk_frozen hzc7 5
  have q0 := (blk_cell hzc7 0).trans rfl
  have q1 := (blk_cell hzc7 1).trans rfl
  have q2 := (blk_cell hzc7 2).trans rfl
  have q3 := (blk_cell hzc7 3).trans rfl
  have q4 := (blk_cell hzc7 4).trans rfl
  have q5 := (blk_cell hzc7 5).trans rfl
  clear r4 r5 hb7 hzc7 HV HZC6
  go_wp2
  refine bodyPost_ret (v := .tuple #[.agg #[.int .i64 (normN 7 zz).f0, .int .i64 (normN 7 zz).f1, .float .f64 (normN 7 zz).f2, .string (normN 7 zz).f3, .slice E4 m4 e4, .slice E5 m5 e5], .bool true]) (by simp [results, Try.results20, go_sem, q0, q1, q2, q3, q4, q5]) rfl ?_
  exact ⟨_, _, rfl, HR4.out _ _ _ _ _ _, HR5.out _ _ _ _ _ _, below_six HB7.out (by omega) _ _ _ _ _ _⟩
end Go.Proofs.Ytlefdkemgfjieaa.P
