/- Releases: the walk of the law FnSemverRelease; what it calls is told by hypotheses. -/
import Derived.Test.YtlhijjfbcgconaaGreatDoorZRgD
set_option linter.unusedVariables false
set_option linter.unusedSimpArgs false
namespace Go.Proofs.YtlhijjfbcgconaaGreatDoor.P
open Go.RowKit Go.Proofs.YtlhijjfbcgconaaGreatDoorW.PrintWords Go.Proofs.YtlhijjfbcgconaaGreatDoorW.PrintLast Go.Proofs.YtlhijjfbcgconaaGreatDoorW.PrintMore

theorem strs_C {W : World} {g : Nat} {xs : List ByteArray} {t : TypeId} (h : W.heap[g]? = some (.cells (xs.map Value.string).toArray t (0, 0))) (hm : xs.length ≤ 1000) : Kd.string.C W (some ⟨g, 0, none⟩) xs.length xs := by
  refine ⟨rfl, by omega, fun _ => ⟨_, rfl, fun j p hj => ⟨[.string p], rfl, rfl, fun i u hu => ?_⟩⟩⟩
  have hi : i = 0 := by
    have := (List.getElem?_eq_some_iff.1 hu).1
    simpa using this
  subst hi
  have hu2 : Value.string p = u := by simpa using hu
  subst hu2
  rw [show Kd.string.sz = 1 from rfl, Nat.mul_one, Nat.add_zero, Addr.add_lit, Nat.zero_add, blk_cell h j]
  simp [hj]
theorem empty3 (p : ByteArray) (h : p.size = 0) : (p.toList == []) = true ∧ (p.toList != []) = false ∧ p.toList.isEmpty = true := by
  rw [show p = ⟨#[]⟩ from ba_ext (List.eq_nil_of_length_eq_zero (by rw [size_list]; exact h))]
  decide +kernel
theorem full3 (p : ByteArray) (h : 0 < p.size) : (p.toList == []) = false ∧ (p.toList != []) = true ∧ p.toList.isEmpty = false := by
  have hn : p.toList ≠ [] := fun q => by
    rw [ByteArray.toList_eq] at q
    rw [← size_list, q] at h
    exact absurd h (by decide)
  refine ⟨beq_eq_false_iff_ne.2 hn, bne_iff_ne.2 hn, ?_⟩
  cases hh : p.toList with
  | nil => exact absurd hh hn
  | cons _ _ => rfl
set_option maxHeartbeats 6400000 in
set_option maxRecDepth 100000 in
theorem rel_walk (op t v : ByteArray) {n1 n2 n3 m1 m2 m3 : Int} {p1 q1 p2 q2 : ByteArray} {ok1 ok2 am : Bool} (w : World)
    (hv1 : ∀ W, Calls Tryz.prog 4 #[.string v] W fun e w' => e = .returned (.tuple #[.agg #[.int .u64 n1, .int .u64 n2, .int .u64 n3, .string p1, .string q1], .bool ok1]) ∧ Below W.heap.size W w')
    (hv2 : ∀ W, Calls Tryz.prog 4 #[.string t] W fun e w' => e = .returned (.tuple #[.agg #[.int .u64 m1, .int .u64 m2, .int .u64 m3, .string p2, .string q2], .bool ok2]) ∧ Below W.heap.size W w')
    (ham : ∀ W A, Kd.string.C W A 5 [⟨#[61]⟩, ⟨#[62]⟩, ⟨#[60]⟩, ⟨#[62, 61]⟩, ⟨#[60, 61]⟩] → Calls Tryz.prog 5 #[.slice A 5 5, .string op] W fun e w' => e = .returned (.bool am) ∧ Below W.heap.size W w')
    (hgood : (ok1 = true → ok2 = true → 0 < p1.size → q1.size = 0 → q2.size = 0 → am = true → ∃ K, (K = 0 ∨ K = 3 ∨ K = 4 ∨ K = 5 ∨ K = 7) ∧ op = opAt K ∧ (op ++ t).size ≤ 1000 ∧ ∃ C : Int, (C = -1 ∨ C = 0 ∨ C = 1) ∧ (∀ W, Calls Tryz.prog 6 #[.agg #[.int .u64 n1, .int .u64 n2, .int .u64 n3, .string p1, .string q1], .agg #[.int .u64 m1, .int .u64 m2, .int .u64 m3, .string p2, .string q2]] W fun e w' => e = .returned (.int .i64 C) ∧ Below W.heap.size W w') ∧
      (∀ W, Below w.heap.size w W → Calls Tryz.prog 7 #[.string (op ++ t), .string v] W fun e w' => e = .returned (.tuple #[.bool ((p2.toList != []) && relB K C), .bool true]) ∧ Below W.heap.size W w'))) :
    Calls Tryz.prog 3 #[.string op, .string t, .string v] w fun e w' => e = .returned (.bool true) ∧ Below w.heap.size w w' := by
  by_cases c0 : 2147483647 < (op.size : Int)
  · have d0 : decide (2147483647 < (op.size : Int)) = true := decide_eq_true c0
    clear hv1 hv2 ham hgood
    go_enter Tryz.func3, Tryz.ntmps3
    go_wp2
    go_ret
    exact ⟨rfl, (Below.refl _ _)⟩
  have d0 : decide (2147483647 < (op.size : Int)) = false := decide_eq_false c0
  by_cases c1 : 2147483647 < (t.size : Int)
  · have d1 : decide (2147483647 < (t.size : Int)) = true := decide_eq_true c1
    clear hv1 hv2 ham hgood
    go_enter Tryz.func3, Tryz.ntmps3
    go_wp2
    go_ret
    exact ⟨rfl, (Below.refl _ _)⟩
  have d1 : decide (2147483647 < (t.size : Int)) = false := decide_eq_false c1
  by_cases c2 : 2147483647 < (v.size : Int)
  · have d2 : decide (2147483647 < (v.size : Int)) = true := decide_eq_true c2
    clear hv1 hv2 ham hgood
    go_enter Tryz.func3, Tryz.ntmps3
    go_wp2
    go_ret
    exact ⟨rfl, (Below.refl _ _)⟩
  have d2 : decide (2147483647 < (v.size : Int)) = false := decide_eq_false c2
  have HV1 := Lib.hid hv1
  have HV2 := Lib.hid hv2
  have HAM := Lib.hid ham
  have HG := Lib.hid hgood
  have HB := Lib.hid (Below.refl w.heap.size w)
  clear hv1 hv2 ham hgood
  go_enter Tryz.func3, Tryz.ntmps3
  go_wp2_with fail
  refine (HV1.out _).mono ?_
  rintro e w1 ⟨rfl, hb1⟩
  have HB1 := Lib.hid (HB.out.trans (hb1.mono HB.out.size))
  clear hb1 HV1 HB
  go_upto_region 4 with fail
  have HB2 := Lib.hid (HB1.out.alloc HB1.out.size (.cells #[.int .u64 n1, .int .u64 n2, .int .u64 n3, .string p1, .string q1] 24))
  have HK2 := Lib.hid (heap_alloc_new w1 (.cells #[.int .u64 n1, .int .u64 n2, .int .u64 n3, .string p1, .string q1] 24))
  clear HB1
  generalize w1.alloc (.cells #[.int .u64 n1, .int .u64 n2, .int .u64 n3, .string p1, .string q1] 24) = w2 at *
  generalize w1.heap.size = g1 at *
  go_wp2_with fail
  refine (HV2.out _).mono ?_
  rintro e w3 ⟨rfl, hb3⟩
  have HB3 := Lib.hid (HB2.out.trans (hb3.mono HB2.out.size))
  have HK3 := Lib.hid (blk_below HK2.out hb3)
  clear hb3 HV2 HB2 HK2
  go_upto_region 5 with fail
  have HB4 := Lib.hid (HB3.out.alloc HB3.out.size (.cells #[.int .u64 m1, .int .u64 m2, .int .u64 m3, .string p2, .string q2] 24))
  have HK4 := Lib.hid (blk_alloc HK3.out (.cells #[.int .u64 m1, .int .u64 m2, .int .u64 m3, .string p2, .string q2] 24))
  have HL4 := Lib.hid (heap_alloc_new w3 (.cells #[.int .u64 m1, .int .u64 m2, .int .u64 m3, .string p2, .string q2] 24))
  clear HB3 HK3
  generalize w3.alloc (.cells #[.int .u64 m1, .int .u64 m2, .int .u64 m3, .string p2, .string q2] 24) = w4 at *
  generalize w3.heap.size = g2 at *
  have y3 := blk_cell HK4.out 3
  have y4 := blk_cell HK4.out 4
  have z3 := blk_cell HL4.out 3
  have z4 := blk_cell HL4.out 4
  simp only [List.getElem?_toArray, List.getElem?_cons_zero, List.getElem?_cons_succ] at y3 y4 z3 z4
  cases ok1 with
  | false =>
    clear HG
    go_wp2
    go_ret
    exact ⟨rfl, HB4.out⟩
  | true =>
  cases ok2 with
  | false =>
    clear HG
    go_wp2
    go_ret
    exact ⟨rfl, HB4.out⟩
  | true =>
  by_cases e1 : p1.size = 0
  · obtain ⟨r1, r2, r3⟩ := empty3 p1 e1
    clear HG
    go_wp2
    go_ret
    exact ⟨rfl, HB4.out⟩
  obtain ⟨r1, r2, r3⟩ := full3 p1 (by omega)
  by_cases e2 : q1.size = 0
  rotate_left
  · obtain ⟨s1, s2, s3⟩ := full3 q1 (by omega)
    clear HG
    go_wp2
    go_ret
    exact ⟨rfl, HB4.out⟩
  obtain ⟨s1, s2, s3⟩ := empty3 q1 e2
  by_cases e3 : q2.size = 0
  rotate_left
  · obtain ⟨u1, u2, u3⟩ := full3 q2 (by omega)
    clear HG
    go_wp2
    go_ret
    exact ⟨rfl, HB4.out⟩
  obtain ⟨u1, u2, u3⟩ := empty3 q2 e3
  go_wp2_with fail
  have HB5 := Lib.hid (HB4.out.alloc HB4.out.size (.cells #[.string ⟨#[61]⟩, .string ⟨#[62]⟩, .string ⟨#[60]⟩, .string ⟨#[62, 61]⟩, .string ⟨#[60, 61]⟩] 9))
  have HC5 := Lib.hid (strs_C (xs := [⟨#[61]⟩, ⟨#[62]⟩, ⟨#[60]⟩, ⟨#[62, 61]⟩, ⟨#[60, 61]⟩]) (heap_alloc_new w4 (.cells #[.string ⟨#[61]⟩, .string ⟨#[62]⟩, .string ⟨#[60]⟩, .string ⟨#[62, 61]⟩, .string ⟨#[60, 61]⟩] 9)) (by decide))
  have HK5 := Lib.hid (blk_alloc HK4.out (.cells #[.string ⟨#[61]⟩, .string ⟨#[62]⟩, .string ⟨#[60]⟩, .string ⟨#[62, 61]⟩, .string ⟨#[60, 61]⟩] 9))
  have HL5 := Lib.hid (blk_alloc HL4.out (.cells #[.string ⟨#[61]⟩, .string ⟨#[62]⟩, .string ⟨#[60]⟩, .string ⟨#[62, 61]⟩, .string ⟨#[60, 61]⟩] 9))
  clear HB4 HK4 HL4 y3 y4 z3 z4
  generalize w4.alloc (.cells #[.string ⟨#[61]⟩, .string ⟨#[62]⟩, .string ⟨#[60]⟩, .string ⟨#[62, 61]⟩, .string ⟨#[60, 61]⟩] 9) = w5 at *
  refine (HAM.out _ _ HC5.out).mono ?_
  rintro e w6 ⟨rfl, hb6⟩
  have HB6 := Lib.hid (HB5.out.trans (hb6.mono HB5.out.size))
  have HK6 := Lib.hid (blk_below HK5.out hb6)
  have HL6 := Lib.hid (blk_below HL5.out hb6)
  clear hb6 HB5 HK5 HL5 HC5 HAM
  cases am with
  | false =>
    clear HG
    go_wp2
    go_ret
    exact ⟨rfl, HB6.out⟩
  | true =>
  obtain ⟨K, hK, rfl, hz, C, hC, hw, hc⟩ := HG.out (by first | rfl | trivial) (by first | rfl | trivial) (by omega) e2 e3 (by first | rfl | trivial)
  have HW := Lib.hid hw
  have HC := Lib.hid hc
  have hz2 : (opAt K).size + t.size ≤ 1000 := by rw [← ByteArray.size_append]; exact hz
  clear HG hw hc r1 r2 r3 s1 s2 s3 u1 u2 u3 e1 e2 e3
  by_cases e4 : p2.size = 0
  · obtain ⟨t1, t2, t3⟩ := empty3 p2 e4
    rw [t2, Bool.false_and] at HC
    clear e4
    have x0 := blk_cell HK6.out 0
    have z0 := blk_cell HL6.out 0
    have x1 := blk_cell HK6.out 1
    have z1 := blk_cell HL6.out 1
    have x2 := blk_cell HK6.out 2
    have z2 := blk_cell HL6.out 2
    have x3 := blk_cell HK6.out 3
    have z3 := blk_cell HL6.out 3
    have x4 := blk_cell HK6.out 4
    have z4 := blk_cell HL6.out 4
    simp only [List.getElem?_toArray, List.getElem?_cons_zero, List.getElem?_cons_succ] at x0 z0 x1 z1 x2 z2 x3 z3 x4 z4
    go_wp2_with fail
    refine (HW.out _).mono ?_
    rintro e w7 ⟨rfl, hb7⟩
    have HB7 := Lib.hid (HB6.out.trans (hb7.mono HB6.out.size))
    have HK7 := Lib.hid (blk_below HL6.out hb7)
    clear hb7 HB6 HK6 HL6 HW
    clear x0 z0 x1 z1 x2 z2 x3 z3 x4 z4
    have z3 := blk_cell HK7.out 3
    simp only [List.getElem?_toArray, List.getElem?_cons_zero, List.getElem?_cons_succ] at z3
    go_wp2_with fail
    refine (HC.out _ HB7.out).mono ?_
    rintro e w8 ⟨rfl, hb8⟩
    have HB8 := Lib.hid (HB7.out.trans (hb8.mono HB7.out.size))
    clear hb8 HB7 HK7 HC z3
    go_wp2
    go_ret
    exact ⟨rfl, HB8.out⟩
  obtain ⟨t1, t2, t3⟩ := full3 p2 (by omega)
  rw [t2, Bool.true_and] at HC
  clear e4
  rcases hK with rfl | rfl | rfl | rfl | rfl
  all_goals
    simp only [relB, opAt] at HC hz2 ⊢
    rcases hC with rfl | rfl | rfl
    all_goals
      have x0 := blk_cell HK6.out 0
      have z0 := blk_cell HL6.out 0
      have x1 := blk_cell HK6.out 1
      have z1 := blk_cell HL6.out 1
      have x2 := blk_cell HK6.out 2
      have z2 := blk_cell HL6.out 2
      have x3 := blk_cell HK6.out 3
      have z3 := blk_cell HL6.out 3
      have x4 := blk_cell HK6.out 4
      have z4 := blk_cell HL6.out 4
      simp only [List.getElem?_toArray, List.getElem?_cons_zero, List.getElem?_cons_succ] at x0 z0 x1 z1 x2 z2 x3 z3 x4 z4
      go_wp2_with fail
      refine (HW.out _).mono ?_
      rintro e w7 ⟨rfl, hb7⟩
      have HB7 := Lib.hid (HB6.out.trans (hb7.mono HB6.out.size))
      have HK7 := Lib.hid (blk_below HL6.out hb7)
      clear hb7 HB6 HK6 HL6 HW
      clear x0 z0 x1 z1 x2 z2 x3 z3 x4 z4
      have z3 := blk_cell HK7.out 3
      simp only [List.getElem?_toArray, List.getElem?_cons_zero, List.getElem?_cons_succ] at z3
      go_wp2_with fail
      refine (HC.out _ HB7.out).mono ?_
      rintro e w8 ⟨rfl, hb8⟩
      have HB8 := Lib.hid (HB7.out.trans (hb8.mono HB7.out.size))
      clear hb8 HB7 HK7 HC z3
      go_wp2
      go_ret
      exact ⟨rfl, HB8.out⟩
end Go.Proofs.YtlhijjfbcgconaaGreatDoor.P

