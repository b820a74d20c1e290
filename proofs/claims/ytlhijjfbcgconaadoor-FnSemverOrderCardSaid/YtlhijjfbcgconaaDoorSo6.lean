/- FnSemverOrder holds. -/
import Derived.Test.YtlhijjfbcgconaaDoorSo5
set_option linter.unusedVariables false
set_option linter.unusedSimpArgs false
namespace Go.Proofs.YtlhijjfbcgconaaDoor.P
open Go.RowKit Go.Proofs.YtlhijjfbcgconaaDoorW.PrintWords Go.Proofs.YtlhijjfbcgconaaDoorW.PrintLast Go.Proofs.YtlhijjfbcgconaaDoorW.PrintMore

set_option maxHeartbeats 1600000 in
set_option maxRecDepth 100000 in
theorem implOrder_call {s t : ByteArray} {a b c d a' b' c' d' : Nat} {n1 n2 n3 m1 m2 m3 : Int} {pa ma pb mb : ByteArray} (hs : Form s a b c d n1 n2 n3 pa ma) (ht : Form t a' b' c' d' m1 m2 m3 pb mb) (l m : List ByteArray) (hl : IdL pa l) (hm : IdL pb m) (w : World) (hE : TabsE w) :
    Calls Tryd.prog 13 #[.string s, .string t] w fun e w' => e = .returned (.tuple #[.int .i64 (cmpV n1 n2 n3 m1 m2 m3 pa pb (cmpL l m)), .bool true]) ∧ Below w.heap.size w w' := by
  have HA := Lib.hid (fun W => newVersion_call hs W)
  have HB := Lib.hid (fun W => newVersion_call ht W)
  have HE := Lib.hid hE
  have HPR := Lib.hid (show 0 < pa.size → 0 < pb.size → ∀ W, TabsE W → Calls Tryd.prog 53 #[.string pa, .string pb] W fun e w' => e = .returned (.int .i64 (cmpL l m)) ∧ Below W.heap.size W w' from fun h1 h2 W hW => by
    obtain ⟨⟨K, hK⟩, _, g1, z1⟩ := hl h1
    obtain ⟨⟨K', hK'⟩, _, g2, z2⟩ := hm h2
    exact prerelease_call (max K K') pa pb l m (hK _ (by omega)) (hK' _ (by omega)) g1 g2 z1 z2 W hW)
  clear hs ht hl hm hE
  generalize cmpL l m = C at *
  obtain ⟨r, hr⟩ : ∃ r, r = cmpV n1 n2 n3 m1 m2 m3 pa pb C := ⟨_, rfl⟩
  have HR := Lib.hid hr
  rw [← hr]
  clear hr
  go_enter Tryd.func13, Tryd.ntmps13
  go_wp2_with fail
  refine (HA.out _).mono ?_
  rintro e w1 ⟨qa, rfl, hqa, hka, hb1⟩
  have HB1 := Lib.hid hb1
  have HK1 := Lib.hid hka
  clear hqa hka hb1 HA
  go_wp2_with fail
  refine (HB.out _).mono ?_
  rintro e w2 ⟨qb, rfl, hqb, hkb, hb2⟩
  have HB2 := Lib.hid (HB1.out.trans (hb2.mono HB1.out.size))
  have HCC := Lib.hid (compare_call qa qb n1 n2 n3 m1 m2 m3 pa ma s pb mb t C w2 (blk_below HK1.out hb2) hkb (HE.out.below HB2.out) HPR.out)
  clear hqb hkb hb2 HB HB1 HK1 HE HPR
  rw [← HR.out] at HCC
  go_wp2_with fail
  refine HCC.out.mono ?_
  rintro e w3 ⟨rfl, hb3⟩
  have HB3 := Lib.hid (HB2.out.trans (hb3.mono HB2.out.size))
  clear hb3 HCC HB2
  go_wp2
  go_ret2
  exact ⟨rfl, HB3.out⟩
theorem ord3_anti (n1 n2 n3 m1 m2 m3 : Int) : ord3 m1 m2 m3 n1 n2 n3 = - ord3 n1 n2 n3 m1 m2 m3 := by
  have h : ∀ a b : Int, seg3 b a = - seg3 a b := fun a b => by
    unfold seg3
    rcases Int.lt_trichotomy a b with c | c | c
    · rw [if_neg (show ¬ b < a by omega), if_pos (show b > a from c), if_pos c]; rfl
    · subst c
      simp
    · rw [if_pos c, if_neg (show ¬ a < b by omega), if_pos (show a > b from c)]
  unfold ord3
  rw [h n1 m1, h n2 m2, h n3 m3]
  by_cases c1 : seg3 n1 m1 = 0
  · rw [if_neg (show ¬ -seg3 n1 m1 ≠ 0 by omega), if_neg (show ¬ seg3 n1 m1 ≠ 0 by omega)]
    by_cases c2 : seg3 n2 m2 = 0
    · rw [if_neg (show ¬ -seg3 n2 m2 ≠ 0 by omega), if_neg (show ¬ seg3 n2 m2 ≠ 0 by omega)]
    · rw [if_pos (show -seg3 n2 m2 ≠ 0 by omega), if_pos (show seg3 n2 m2 ≠ 0 by omega)]
  · rw [if_pos (show -seg3 n1 m1 ≠ 0 by omega), if_pos (show seg3 n1 m1 ≠ 0 by omega)]
theorem ord3_range (n1 n2 n3 m1 m2 m3 : Int) : ord3 n1 n2 n3 m1 m2 m3 = -1 ∨ ord3 n1 n2 n3 m1 m2 m3 = 0 ∨ ord3 n1 n2 n3 m1 m2 m3 = 1 := by
  unfold ord3
  split
  · exact seg3_range _ _
  · split
    · exact seg3_range _ _
    · exact seg3_range _ _
theorem cmpV_anti (n1 n2 n3 m1 m2 m3 : Int) (pa pb : ByteArray) (l m : List ByteArray) : cmpV m1 m2 m3 n1 n2 n3 pb pa (cmpL m l) = - cmpV n1 n2 n3 m1 m2 m3 pa pb (cmpL l m) := by
  unfold cmpV
  rw [ord3_anti n1 n2 n3 m1 m2 m3, cmpL_anti l m]
  by_cases c1 : ord3 n1 n2 n3 m1 m2 m3 = 0
  · rw [if_neg (show ¬ -ord3 n1 n2 n3 m1 m2 m3 ≠ 0 by omega), if_neg (show ¬ ord3 n1 n2 n3 m1 m2 m3 ≠ 0 by omega)]
    unfold preC
    by_cases a : pa.size = 0 <;> by_cases b : pb.size = 0 <;> simp [a, b]
  · rw [if_pos (show -ord3 n1 n2 n3 m1 m2 m3 ≠ 0 by omega), if_pos (show ord3 n1 n2 n3 m1 m2 m3 ≠ 0 by omega)]
theorem cmpV_range (n1 n2 n3 m1 m2 m3 : Int) (pa pb : ByteArray) (l m : List ByteArray) : cmpV n1 n2 n3 m1 m2 m3 pa pb (cmpL l m) = -1 ∨ cmpV n1 n2 n3 m1 m2 m3 pa pb (cmpL l m) = 0 ∨ cmpV n1 n2 n3 m1 m2 m3 pa pb (cmpL l m) = 1 := by
  unfold cmpV
  split
  · exact ord3_range _ _ _ _ _ _
  · unfold preC
    split
    · split <;> simp
    · split
      · simp
      · exact cmpL_range l m
/-- What laws.version9 answers at a text. -/
theorem v9 (s : ByteArray) : ∃ (n1 n2 n3 : Int) (pre mt : ByteArray) (q : Bool), (∀ W : World, Calls Tryd.prog 12 #[.string s] W fun e w' => e = .returned (.tuple #[.agg #[.int .u64 n1, .int .u64 n2, .int .u64 n3, .string pre, .string mt], .bool q]) ∧ Below W.heap.size W w') ∧
    (q = true → ∃ a b c d, Form s a b c d n1 n2 n3 pre mt ∧ ∃ l, IdL pre l) := by
  obtain ⟨⟨n1, n2, n3, pre, mt, ok⟩, ⟨K, hK⟩, hf⟩ := parse_ev s
  cases ok with
  | false => exact ⟨n1, n2, n3, pre, mt, false, fun W => version9_no K s n1 n2 n3 pre mt (hK K (Nat.le_refl _)) W, fun h => by cases h⟩
  | true =>
    obtain ⟨a, b, c, d, hform⟩ := hf rfl
    obtain ⟨q, l, ⟨K2, hK2⟩, hq⟩ := short_ev hform
    refine ⟨n1, n2, n3, pre, mt, q, fun W => version9_call (max K K2) s n1 n2 n3 pre mt (hK _ (by omega)) q (hK2 _ (by omega)) W, fun h => ⟨a, b, c, d, hform, l, hq h⟩⟩
set_option maxHeartbeats 1600000 in
set_option maxRecDepth 100000 in
theorem fnSemverOrder (s t : ByteArray) (w : World) (hs0 : s.size ≤ 140737488351232) (ht0 : t.size ≤ 140737488351232) (hE : TabsE w) :
    Calls Tryd.prog 4 #[.string s, .string t] w fun e w' => e = .returned (.bool true) ∧ Below w.heap.size w w' := by
  have HB := Lib.hid (Below.refl w.heap.size w)
  by_cases c0 : 2147483647 < (s.size : Int)
  · have dc0 : decide (2147483647 < (s.size : Int)) = true := decide_eq_true c0
    clear hE
    go_enter Tryd.func4, Tryd.ntmps4
    go_wp2
    go_ret
    exact ⟨rfl, HB.out⟩
  have dc0 : decide (2147483647 < (s.size : Int)) = false := decide_eq_false c0
  by_cases c1 : 2147483647 < (t.size : Int)
  · have dc1 : decide (2147483647 < (t.size : Int)) = true := decide_eq_true c1
    clear hE
    go_enter Tryd.func4, Tryd.ntmps4
    go_wp2
    go_ret
    exact ⟨rfl, HB.out⟩
  have dc1 : decide (2147483647 < (t.size : Int)) = false := decide_eq_false c1
  obtain ⟨n1, n2, n3, p1, q1, ok1, hv1, hf1⟩ := v9 s
  obtain ⟨m1, m2, m3, p2, q2, ok2, hv2, hf2⟩ := v9 t
  have HV1 := Lib.hid hv1
  have HV2 := Lib.hid hv2
  have HE := Lib.hid hE
  clear hv1 hv2 hE
  cases ok1 with
  | false =>
    clear hf1 hf2 HE
    go_enter Tryd.func4, Tryd.ntmps4
    go_wp2_with fail
    refine (HV1.out _).mono ?_
    rintro e w1 ⟨rfl, hb1⟩
    have HB1 := Lib.hid hb1
    clear hb1 HV1
    go_upto_region 4 with fail
    have HB2 := Lib.hid (HB1.out.trans ((alloc_below w1 (.cells #[.int .u64 n1, .int .u64 n2, .int .u64 n3, .string p1, .string q1] 24)).mono HB1.out.size))
    have HK2 := Lib.hid (heap_alloc_new w1 (.cells #[.int .u64 n1, .int .u64 n2, .int .u64 n3, .string p1, .string q1] 24))
    clear HB1
    generalize w1.alloc (.cells #[.int .u64 n1, .int .u64 n2, .int .u64 n3, .string p1, .string q1] 24) = w2 at *
    generalize w1.heap.size = g1 at *
    go_wp2_with fail
    refine (HV2.out _).mono ?_
    rintro e w3 ⟨rfl, hb3⟩
    have HB3 := Lib.hid (HB2.out.trans (hb3.mono HB2.out.size))
    have HK3 := Lib.hid (blk_below HK2.out hb3)
    clear hb3 HV2 HB2 HK2
    go_upto_region 5 with fail
    have HB4 := Lib.hid (HB3.out.trans ((alloc_below w3 (.cells #[.int .u64 m1, .int .u64 m2, .int .u64 m3, .string p2, .string q2] 24)).mono HB3.out.size))
    have HK4 := Lib.hid (blk_below HK3.out (alloc_below w3 (.cells #[.int .u64 m1, .int .u64 m2, .int .u64 m3, .string p2, .string q2] 24)))
    have HL4 := Lib.hid (heap_alloc_new w3 (.cells #[.int .u64 m1, .int .u64 m2, .int .u64 m3, .string p2, .string q2] 24))
    clear HB3 HK3
    generalize w3.alloc (.cells #[.int .u64 m1, .int .u64 m2, .int .u64 m3, .string p2, .string q2] 24) = w4 at *
    generalize w3.heap.size = g2 at *
    go_wp2
    go_ret
    exact ⟨rfl, HB4.out⟩
  | true =>
  cases ok2 with
  | false =>
    clear hf1 hf2 HE
    go_enter Tryd.func4, Tryd.ntmps4
    go_wp2_with fail
    refine (HV1.out _).mono ?_
    rintro e w1 ⟨rfl, hb1⟩
    have HB1 := Lib.hid hb1
    clear hb1 HV1
    go_upto_region 4 with fail
    have HB2 := Lib.hid (HB1.out.trans ((alloc_below w1 (.cells #[.int .u64 n1, .int .u64 n2, .int .u64 n3, .string p1, .string q1] 24)).mono HB1.out.size))
    have HK2 := Lib.hid (heap_alloc_new w1 (.cells #[.int .u64 n1, .int .u64 n2, .int .u64 n3, .string p1, .string q1] 24))
    clear HB1
    generalize w1.alloc (.cells #[.int .u64 n1, .int .u64 n2, .int .u64 n3, .string p1, .string q1] 24) = w2 at *
    generalize w1.heap.size = g1 at *
    go_wp2_with fail
    refine (HV2.out _).mono ?_
    rintro e w3 ⟨rfl, hb3⟩
    have HB3 := Lib.hid (HB2.out.trans (hb3.mono HB2.out.size))
    have HK3 := Lib.hid (blk_below HK2.out hb3)
    clear hb3 HV2 HB2 HK2
    go_upto_region 5 with fail
    have HB4 := Lib.hid (HB3.out.trans ((alloc_below w3 (.cells #[.int .u64 m1, .int .u64 m2, .int .u64 m3, .string p2, .string q2] 24)).mono HB3.out.size))
    have HK4 := Lib.hid (blk_below HK3.out (alloc_below w3 (.cells #[.int .u64 m1, .int .u64 m2, .int .u64 m3, .string p2, .string q2] 24)))
    have HL4 := Lib.hid (heap_alloc_new w3 (.cells #[.int .u64 m1, .int .u64 m2, .int .u64 m3, .string p2, .string q2] 24))
    clear HB3 HK3
    generalize w3.alloc (.cells #[.int .u64 m1, .int .u64 m2, .int .u64 m3, .string p2, .string q2] 24) = w4 at *
    generalize w3.heap.size = g2 at *
    go_wp2
    go_ret
    exact ⟨rfl, HB4.out⟩
  | true =>
  obtain ⟨a, b, c, d, f1, l, hl⟩ := hf1 rfl
  obtain ⟨a', b', c', d', f2, m, hm⟩ := hf2 rfl
  have H1 := Lib.hid (fun W hW => implOrder_call f1 f2 l m hl hm W hW)
  have H2 := Lib.hid (fun W hW => implOrder_call f2 f1 m l hm hl W hW)
  have H3 := Lib.hid (fun W => whole_call n1 n2 n3 m1 m2 m3 p1 q1 p2 q2 l m hl hm W)
  rw [cmpV_anti n1 n2 n3 m1 m2 m3 p1 p2 l m] at H2
  have HRG := cmpV_range n1 n2 n3 m1 m2 m3 p1 p2 l m
  generalize cmpV n1 n2 n3 m1 m2 m3 p1 p2 (cmpL l m) = r at *
  clear hf1 hf2 f1 f2 hl hm
  rcases HRG with rfl | rfl | rfl
  all_goals
    go_enter Tryd.func4, Tryd.ntmps4
    go_wp2_with fail
    refine (HV1.out _).mono ?_
    rintro e w1 ⟨rfl, hb1⟩
    have HB1 := Lib.hid hb1
    clear hb1 HV1
    go_upto_region 4 with fail
    have HB2 := Lib.hid (HB1.out.trans ((alloc_below w1 (.cells #[.int .u64 n1, .int .u64 n2, .int .u64 n3, .string p1, .string q1] 24)).mono HB1.out.size))
    have HK2 := Lib.hid (heap_alloc_new w1 (.cells #[.int .u64 n1, .int .u64 n2, .int .u64 n3, .string p1, .string q1] 24))
    clear HB1
    generalize w1.alloc (.cells #[.int .u64 n1, .int .u64 n2, .int .u64 n3, .string p1, .string q1] 24) = w2 at *
    generalize w1.heap.size = g1 at *
    go_wp2_with fail
    refine (HV2.out _).mono ?_
    rintro e w3 ⟨rfl, hb3⟩
    have HB3 := Lib.hid (HB2.out.trans (hb3.mono HB2.out.size))
    have HK3 := Lib.hid (blk_below HK2.out hb3)
    clear hb3 HV2 HB2 HK2
    go_upto_region 5 with fail
    have HB4 := Lib.hid (HB3.out.trans ((alloc_below w3 (.cells #[.int .u64 m1, .int .u64 m2, .int .u64 m3, .string p2, .string q2] 24)).mono HB3.out.size))
    have HK4 := Lib.hid (blk_below HK3.out (alloc_below w3 (.cells #[.int .u64 m1, .int .u64 m2, .int .u64 m3, .string p2, .string q2] 24)))
    have HL4 := Lib.hid (heap_alloc_new w3 (.cells #[.int .u64 m1, .int .u64 m2, .int .u64 m3, .string p2, .string q2] 24))
    clear HB3 HK3
    generalize w3.alloc (.cells #[.int .u64 m1, .int .u64 m2, .int .u64 m3, .string p2, .string q2] 24) = w4 at *
    generalize w3.heap.size = g2 at *
    go_wp2_with fail
    refine (H1.out _ (HE.out.below HB4.out)).mono ?_
    rintro e w5 ⟨rfl, hb5⟩
    have HB5 := Lib.hid (HB4.out.trans (hb5.mono HB4.out.size))
    have HK5 := Lib.hid (⟨blk_below HK4.out hb5, blk_below HL4.out hb5⟩ : _ ∧ _)
    clear hb5 H1 HB4 HK4 HL4
    go_wp2_with fail
    refine (H2.out _ (HE.out.below HB5.out)).mono ?_
    rintro e w6 ⟨rfl, hb6⟩
    have HB6 := Lib.hid (HB5.out.trans (hb6.mono HB5.out.size))
    obtain ⟨hk1, hk2⟩ : _ ∧ _ := ⟨blk_below HK5.out.1 hb6, blk_below HK5.out.2 hb6⟩
    have x0 : w6.cell? ⟨g1, 0, none⟩ = some (.int .u64 n1) := by rw [blk_cell hk1 0]; rfl
    have x1 : w6.cell? ⟨g1, 1, none⟩ = some (.int .u64 n2) := by rw [blk_cell hk1 1]; rfl
    have x2 : w6.cell? ⟨g1, 2, none⟩ = some (.int .u64 n3) := by rw [blk_cell hk1 2]; rfl
    have x3 : w6.cell? ⟨g1, 3, none⟩ = some (.string p1) := by rw [blk_cell hk1 3]; rfl
    have x4 : w6.cell? ⟨g1, 4, none⟩ = some (.string q1) := by rw [blk_cell hk1 4]; rfl
    have z0 : w6.cell? ⟨g2, 0, none⟩ = some (.int .u64 m1) := by rw [blk_cell hk2 0]; rfl
    have z1 : w6.cell? ⟨g2, 1, none⟩ = some (.int .u64 m2) := by rw [blk_cell hk2 1]; rfl
    have z2 : w6.cell? ⟨g2, 2, none⟩ = some (.int .u64 m3) := by rw [blk_cell hk2 2]; rfl
    have z3 : w6.cell? ⟨g2, 3, none⟩ = some (.string p2) := by rw [blk_cell hk2 3]; rfl
    have z4 : w6.cell? ⟨g2, 4, none⟩ = some (.string q2) := by rw [blk_cell hk2 4]; rfl
    clear hb6 H2 HB5 HK5 hk1 hk2 HE
    go_wp2_with fail
    refine (H3.out _).mono ?_
    rintro e w7 ⟨rfl, hb7⟩
    have HB7 := Lib.hid (HB6.out.trans (hb7.mono HB6.out.size))
    clear hb7 H3 HB6 x0 x1 x2 x3 x4 z0 z1 z2 z3 z4
    go_wp2
    go_ret
    exact ⟨rfl, HB7.out⟩
end Go.Proofs.YtlhijjfbcgconaaDoor.P
