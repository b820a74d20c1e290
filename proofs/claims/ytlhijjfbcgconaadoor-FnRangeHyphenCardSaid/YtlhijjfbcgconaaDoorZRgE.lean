/- Texts joined: Rg26, Rg32, Rg33, Rg35. -/
import Derived.Test.YtlhijjfbcgconaaDoorZXw
import Derived.Test.YtlhijjfbcgconaaDoorZPx0
import Derived.Lib.Hide
import Derived.Test.YtlhijjfbcgconaaDoorZRgD
import Derived.Test.YtlhijjfbcgconaaDoorZPx23
import Derived.Test.YtlhijjfbcgconaaDoorZRgF

/- Ranges: the walk of the law FnRangeTilde; what it calls is told by hypotheses. -/
set_option linter.unusedVariables false
set_option linter.unusedSimpArgs false
namespace Go.Proofs.YtlhijjfbcgconaaDoor.P
open Go.RowKit Go.Proofs.YtlhijjfbcgconaaDoorW.PrintWords Go.Proofs.YtlhijjfbcgconaaDoorW.PrintLast Go.Proofs.YtlhijjfbcgconaaDoorW.PrintMore

theorem num16 (a : Int) (h : (Lit.int IntKind.u16 a).wf = true) : ∃ A : Nat, A < 1000 ∧ IntKind.u64.wrap (Int.tmod a 1000) = (A : Int) ∧ Int.tmod a 1000 = (A : Int) := by
  simp only [Lit.wf, IntKind.min, IntKind.max, IntKind.signed, IntKind.bits, Bool.and_eq_true, decide_eq_true_eq] at h
  obtain ⟨h0, h1⟩ : 0 ≤ a ∧ a ≤ 65535 := by
    simp at h
    omega
  have h2 : Int.tmod a 1000 = a % 1000 := Int.tmod_eq_emod_of_nonneg h0
  refine ⟨(a % 1000).toNat, by omega, ?_, by rw [h2]; omega⟩
  rw [h2]
  have : IntKind.u64.wrap (a % 1000) = a % 1000 := by
    simp only [IntKind.wrap, IntKind.signed, IntKind.bits]
    simp
    omega
  rw [this]
  omega
end Go.Proofs.YtlhijjfbcgconaaDoor.P


/- Ranges: the walk of the law FnRangeHyphen; what it calls is told by hypotheses. -/
set_option linter.unusedVariables false
set_option linter.unusedSimpArgs false
namespace Go.Proofs.YtlhijjfbcgconaaDoor.P
open Go.RowKit Go.Proofs.YtlhijjfbcgconaaDoorW.PrintWords Go.Proofs.YtlhijjfbcgconaaDoorW.PrintLast Go.Proofs.YtlhijjfbcgconaaDoorW.PrintMore

set_option maxHeartbeats 6400000 in
set_option maxRecDepth 100000 in
theorem hyphen_walk (i0 i1 i2 i3 i4 i5 i6 i7 i8 : Int) {F1 F2 F3 T1 T2 T3 V1 V2 V3 : Nat} {X1 X2 X3 : ByteArray} {O1 O2 : Int} {b1 b2 : Bool} (y1 : X1.size ≤ 100) (y2 : X2.size ≤ 100) (hb1 : decide (O1 ≥ 0) = b1) (hb2 : decide (O2 ≤ 0) = b2)
    (hv1 : (∀ W, Calls Tryd.prog 21 #[.int .u16 i0, .int .u16 i1, .int .u16 i2] W fun e w' => e = .returned (.agg #[.int .u64 (F1 : Int), .int .u64 (F2 : Int), .int .u64 (F3 : Int), .string ⟨#[]⟩, .string ⟨#[]⟩]) ∧ Below W.heap.size W w')) (hv2 : (∀ W, Calls Tryd.prog 21 #[.int .u16 i3, .int .u16 i4, .int .u16 i5] W fun e w' => e = .returned (.agg #[.int .u64 (T1 : Int), .int .u64 (T2 : Int), .int .u64 (T3 : Int), .string ⟨#[]⟩, .string ⟨#[]⟩]) ∧ Below W.heap.size W w')) (hv3 : (∀ W, Calls Tryd.prog 21 #[.int .u16 i6, .int .u16 i7, .int .u16 i8] W fun e w' => e = .returned (.agg #[.int .u64 (V1 : Int), .int .u64 (V2 : Int), .int .u64 (V3 : Int), .string ⟨#[]⟩, .string ⟨#[]⟩]) ∧ Below W.heap.size W w')) (ht1 : (∀ W, Calls Tryd.prog 20 #[.agg #[.int .u64 (F1 : Int), .int .u64 (F2 : Int), .int .u64 (F3 : Int), .string ⟨#[]⟩, .string ⟨#[]⟩]] W fun e w' => e = .returned (.string X1) ∧ Below W.heap.size W w')) (ht2 : (∀ W, Calls Tryd.prog 20 #[.agg #[.int .u64 (T1 : Int), .int .u64 (T2 : Int), .int .u64 (T3 : Int), .string ⟨#[]⟩, .string ⟨#[]⟩]] W fun e w' => e = .returned (.string X2) ∧ Below W.heap.size W w')) (ht3 : (∀ W, Calls Tryd.prog 20 #[.agg #[.int .u64 (V1 : Int), .int .u64 (V2 : Int), .int .u64 (V3 : Int), .string ⟨#[]⟩, .string ⟨#[]⟩]] W fun e w' => e = .returned (.string X3) ∧ Below W.heap.size W w'))
    (ho1 : ∀ W, Calls Tryd.prog 25 #[.agg #[.int .u64 (V1 : Int), .int .u64 (V2 : Int), .int .u64 (V3 : Int), .string ⟨#[]⟩, .string ⟨#[]⟩], .agg #[.int .u64 (F1 : Int), .int .u64 (F2 : Int), .int .u64 (F3 : Int), .string ⟨#[]⟩, .string ⟨#[]⟩]] W fun e w' => e = .returned (.int .i64 O1) ∧ Below W.heap.size W w')
    (ho2 : ∀ W, Calls Tryd.prog 25 #[.agg #[.int .u64 (V1 : Int), .int .u64 (V2 : Int), .int .u64 (V3 : Int), .string ⟨#[]⟩, .string ⟨#[]⟩], .agg #[.int .u64 (T1 : Int), .int .u64 (T2 : Int), .int .u64 (T3 : Int), .string ⟨#[]⟩, .string ⟨#[]⟩]] W fun e w' => e = .returned (.int .i64 O2) ∧ Below W.heap.size W w')
    (w : World) (hc : ∀ W, Below w.heap.size w W → Calls Tryd.prog 24 #[.string ((X1 ++ ⟨#[32, 45, 32]⟩) ++ X2), .string X3] W fun e w' => e = .returned (.tuple #[.bool (b1 && b2), .bool true]) ∧ Below W.heap.size W w') :
    Calls Tryd.prog 8 #[.int .u16 i0, .int .u16 i1, .int .u16 i2, .int .u16 i3, .int .u16 i4, .int .u16 i5, .int .u16 i6, .int .u16 i7, .int .u16 i8] w fun e w' => e = .returned (.bool true) ∧ Below w.heap.size w w' := by
  have HV1 := Lib.hid hv1
  have HV2 := Lib.hid hv2
  have HV3 := Lib.hid hv3
  have HT1 := Lib.hid ht1
  have HT2 := Lib.hid ht2
  have HT3 := Lib.hid ht3
  have HO1 := Lib.hid ho1
  have HO2 := Lib.hid ho2
  have HC := Lib.hid hc
  have HD1 := Lib.hid hb1
  have HD2 := Lib.hid hb2
  have HB0 := Lib.hid (Below.refl w.heap.size w)
  obtain ⟨bb, hbb⟩ : ∃ bb, bb = (b1 && b2) := ⟨_, rfl⟩
  rw [← hbb] at HC
  have HBB := Lib.hid hbb
  clear hv1 hv2 hv3 ht1 ht2 ht3 ho1 ho2 hc hb1 hb2 hbb
  go_enter Tryd.func8, Tryd.ntmps8
  go_wp2_with fail
  refine (HV1.out _).mono ?_
  rintro e1 w1 ⟨rfl, hb⟩
  have HB1 := Lib.hid (HB0.out.trans (hb.mono HB0.out.size))
  clear hb HB0 HV1
  go_wp2_with fail
  refine (HV2.out _).mono ?_
  rintro e2 w2 ⟨rfl, hb⟩
  have HB2 := Lib.hid (HB1.out.trans (hb.mono HB1.out.size))
  clear hb HB1 HV2
  go_wp2_with fail
  refine (HV3.out _).mono ?_
  rintro e3 w3 ⟨rfl, hb⟩
  have HB3 := Lib.hid (HB2.out.trans (hb.mono HB2.out.size))
  clear hb HB2 HV3
  go_upto_region 2 with fail
  have HB4 := Lib.hid (show Below w.heap.size w (((w3.alloc (.cells #[.int .u64 (F1 : Int), .int .u64 (F2 : Int), .int .u64 (F3 : Int), .string ⟨#[]⟩, .string ⟨#[]⟩] 24)).alloc (.cells #[.int .u64 (T1 : Int), .int .u64 (T2 : Int), .int .u64 (T3 : Int), .string ⟨#[]⟩, .string ⟨#[]⟩] 24)).alloc (.cells #[.int .u64 (V1 : Int), .int .u64 (V2 : Int), .int .u64 (V3 : Int), .string ⟨#[]⟩, .string ⟨#[]⟩] 24)) from ((HB3.out.alloc HB3.out.size (.cells #[.int .u64 (F1 : Int), .int .u64 (F2 : Int), .int .u64 (F3 : Int), .string ⟨#[]⟩, .string ⟨#[]⟩] 24)).alloc (by simp; have := HB3.out.size; omega) (.cells #[.int .u64 (T1 : Int), .int .u64 (T2 : Int), .int .u64 (T3 : Int), .string ⟨#[]⟩, .string ⟨#[]⟩] 24)).alloc (by simp; have := HB3.out.size; omega) (.cells #[.int .u64 (V1 : Int), .int .u64 (V2 : Int), .int .u64 (V3 : Int), .string ⟨#[]⟩, .string ⟨#[]⟩] 24))
  have hSF := blk_alloc (blk_alloc (heap_alloc_new w3 (.cells #[.int .u64 (F1 : Int), .int .u64 (F2 : Int), .int .u64 (F3 : Int), .string ⟨#[]⟩, .string ⟨#[]⟩] 24)) (.cells #[.int .u64 (T1 : Int), .int .u64 (T2 : Int), .int .u64 (T3 : Int), .string ⟨#[]⟩, .string ⟨#[]⟩] 24)) (.cells #[.int .u64 (V1 : Int), .int .u64 (V2 : Int), .int .u64 (V3 : Int), .string ⟨#[]⟩, .string ⟨#[]⟩] 24)
  have hST := blk_alloc (heap_alloc_new (w3.alloc (.cells #[.int .u64 (F1 : Int), .int .u64 (F2 : Int), .int .u64 (F3 : Int), .string ⟨#[]⟩, .string ⟨#[]⟩] 24)) (.cells #[.int .u64 (T1 : Int), .int .u64 (T2 : Int), .int .u64 (T3 : Int), .string ⟨#[]⟩, .string ⟨#[]⟩] 24)) (.cells #[.int .u64 (V1 : Int), .int .u64 (V2 : Int), .int .u64 (V3 : Int), .string ⟨#[]⟩, .string ⟨#[]⟩] 24)
  have hSV := heap_alloc_new ((w3.alloc (.cells #[.int .u64 (F1 : Int), .int .u64 (F2 : Int), .int .u64 (F3 : Int), .string ⟨#[]⟩, .string ⟨#[]⟩] 24)).alloc (.cells #[.int .u64 (T1 : Int), .int .u64 (T2 : Int), .int .u64 (T3 : Int), .string ⟨#[]⟩, .string ⟨#[]⟩] 24)) (.cells #[.int .u64 (V1 : Int), .int .u64 (V2 : Int), .int .u64 (V3 : Int), .string ⟨#[]⟩, .string ⟨#[]⟩] 24)
  rw [show (w3.alloc (.cells #[.int .u64 (F1 : Int), .int .u64 (F2 : Int), .int .u64 (F3 : Int), .string ⟨#[]⟩, .string ⟨#[]⟩] 24)).heap.size = w3.heap.size + 1 by simp] at hST
  rw [show ((w3.alloc (.cells #[.int .u64 (F1 : Int), .int .u64 (F2 : Int), .int .u64 (F3 : Int), .string ⟨#[]⟩, .string ⟨#[]⟩] 24)).alloc (.cells #[.int .u64 (T1 : Int), .int .u64 (T2 : Int), .int .u64 (T3 : Int), .string ⟨#[]⟩, .string ⟨#[]⟩] 24)).heap.size = w3.heap.size + 1 + 1 by simp] at hSV
  clear HB3
  generalize ((w3.alloc (.cells #[.int .u64 (F1 : Int), .int .u64 (F2 : Int), .int .u64 (F3 : Int), .string ⟨#[]⟩, .string ⟨#[]⟩] 24)).alloc (.cells #[.int .u64 (T1 : Int), .int .u64 (T2 : Int), .int .u64 (T3 : Int), .string ⟨#[]⟩, .string ⟨#[]⟩] 24)).alloc (.cells #[.int .u64 (V1 : Int), .int .u64 (V2 : Int), .int .u64 (V3 : Int), .string ⟨#[]⟩, .string ⟨#[]⟩] 24) = w4 at *
  obtain ⟨GF, hGF⟩ : ∃ g, g = w3.heap.size := ⟨_, rfl⟩
  rw [← hGF] at hSF hST hSV ⊢
  obtain ⟨GT, hGT⟩ : ∃ g, g = GF + 1 := ⟨_, rfl⟩
  rw [← hGT] at hST hSV ⊢
  obtain ⟨GV, hGV⟩ : ∃ g, g = GT + 1 := ⟨_, rfl⟩
  (try rw [← hGV] at hSV ⊢)
  (try rw [show GF + 2 = GV by omega])
  have HSd := Lib.hid (show w4.drew.heap[GF]? = some (.cells #[.int .u64 (F1 : Int), .int .u64 (F2 : Int), .int .u64 (F3 : Int), .string ⟨#[]⟩, .string ⟨#[]⟩] 24 (0, 0)) ∧ w4.drew.heap[GT]? = some (.cells #[.int .u64 (T1 : Int), .int .u64 (T2 : Int), .int .u64 (T3 : Int), .string ⟨#[]⟩, .string ⟨#[]⟩] 24 (0, 0)) ∧ w4.drew.heap[GV]? = some (.cells #[.int .u64 (V1 : Int), .int .u64 (V2 : Int), .int .u64 (V3 : Int), .string ⟨#[]⟩, .string ⟨#[]⟩] 24 (0, 0)) from ⟨hSF, hST, hSV⟩)
  have HBd := Lib.hid (show Below w.heap.size w w4.drew from HB4.out.drew)
  clear HB4 hSF hST hSV hGF hGT hGV
  refine start_ (n := 14) (ds := []) (S := fun w' => w'.heap[GF]? = some (.cells #[.int .u64 (F1 : Int), .int .u64 (F2 : Int), .int .u64 (F3 : Int), .string ⟨#[]⟩, .string ⟨#[]⟩] 24 (0, 0)) ∧ w'.heap[GT]? = some (.cells #[.int .u64 (T1 : Int), .int .u64 (T2 : Int), .int .u64 (T3 : Int), .string ⟨#[]⟩, .string ⟨#[]⟩] 24 (0, 0)) ∧ w'.heap[GV]? = some (.cells #[.int .u64 (V1 : Int), .int .u64 (V2 : Int), .int .u64 (V3 : Int), .string ⟨#[]⟩, .string ⟨#[]⟩] 24 (0, 0))) #[false, false, false, false, false, false, false, false, false, false, false, false, false, false] (by kernel_rfl) rfl rfl (HSd.out) (fun hHeld => ?_)
  generalize w4.drew = u0 at *
  refine take_ (i := 0) (N := some 37) (v := ?_) (a' := ?_) #[true, false, false, false, false, false, false, false, false, false, false, false, false, false] rfl rfl (by kernel_rfl) (fun _ _ _ h => h) (Or.inl ⟨by rfl, ?_⟩) hHeld ?_ ?_
  rotate_left
  · intro w' hS
    obtain ⟨hS, _, _⟩ := hS
    have y0 := blk_cell hS 0
    have y1 := blk_cell hS 1
    have y2 := blk_cell hS 2
    have y3 := blk_cell hS 3
    have y4 := blk_cell hS 4
    simp only [List.getElem?_toArray, List.getElem?_cons_zero, List.getElem?_cons_succ] at y0 y1 y2 y3 y4
    clear hS
    go_simp
    with_reducible rfl
  rotate_left; (go_frame; rfl)
  refine take_ (i := 3) (N := some 40) (v := ?_) (a' := ?_) #[true, false, false, true, false, false, false, false, false, false, false, false, false, false] rfl rfl (by kernel_rfl) (fun _ _ _ h => h) (Or.inl ⟨by rfl, ?_⟩) hHeld ?_ ?_
  rotate_left
  · intro w' hS
    obtain ⟨_, hS, _⟩ := hS
    have y0 := blk_cell hS 0
    have y1 := blk_cell hS 1
    have y2 := blk_cell hS 2
    have y3 := blk_cell hS 3
    have y4 := blk_cell hS 4
    simp only [List.getElem?_toArray, List.getElem?_cons_zero, List.getElem?_cons_succ] at y0 y1 y2 y3 y4
    clear hS
    go_simp
    with_reducible rfl
  rotate_left; (go_frame; rfl)
  refine take_ (i := 6) (N := some 43) (v := ?_) (a' := ?_) #[true, false, false, true, false, false, true, false, false, false, false, false, false, false] rfl rfl (by kernel_rfl) (fun _ _ _ h => h) (Or.inl ⟨by rfl, ?_⟩) hHeld ?_ ?_
  rotate_left
  · intro w' hS
    obtain ⟨_, _, hS⟩ := hS
    have y0 := blk_cell hS 0
    have y1 := blk_cell hS 1
    have y2 := blk_cell hS 2
    have y3 := blk_cell hS 3
    have y4 := blk_cell hS 4
    simp only [List.getElem?_toArray, List.getElem?_cons_zero, List.getElem?_cons_succ] at y0 y1 y2 y3 y4
    clear hS
    go_simp
    with_reducible rfl
  rotate_left; (go_frame; rfl)
  refine one_ (i := 1) (N := some 38) #[true, true, false, true, false, false, true, false, false, false, false, false, false, false] rfl rfl (by kernel_rfl) (by decide) (fun K hK => ?_)
  refine goes_ Tryd.func20 (by kernel_rfl) rfl #[.agg #[.int .u64 (F1 : Int), .int .u64 (F2 : Int), .int .u64 (F3 : Int), .string ⟨#[]⟩, .string ⟨#[]⟩]] (by rfl) rfl rfl (by (try simp only [List.map_toArray, List.map_cons, List.map_nil]); first | done | rfl) ?_
  refine (HT1.out u0).mono ?_
  rintro e u1 ⟨rfl, hb⟩
  have HU1 := Lib.hid (show u1.heap[GF]? = some (.cells #[.int .u64 (F1 : Int), .int .u64 (F2 : Int), .int .u64 (F3 : Int), .string ⟨#[]⟩, .string ⟨#[]⟩] 24 (0, 0)) ∧ u1.heap[GT]? = some (.cells #[.int .u64 (T1 : Int), .int .u64 (T2 : Int), .int .u64 (T3 : Int), .string ⟨#[]⟩, .string ⟨#[]⟩] 24 (0, 0)) ∧ u1.heap[GV]? = some (.cells #[.int .u64 (V1 : Int), .int .u64 (V2 : Int), .int .u64 (V3 : Int), .string ⟨#[]⟩, .string ⟨#[]⟩] 24 (0, 0)) from ⟨blk_below HSd.out.1 hb, blk_below HSd.out.2.1 hb, blk_below HSd.out.2.2 hb⟩)
  have HK1 := Lib.hid (HBd.out.trans (hb.mono HBd.out.size))
  clear hb HSd HBd
  refine ⟨_, rfl, ?_⟩
  clear hHeld
  refine hK.out _ _ (HU1.out) (fun hHeld => ?_)
  clear hK K
  refine norm_ (a' := ?_) ?_ ?_
  rotate_left
  · show Act.put _ (some 38) _ = _
    go_frame
    rfl
  refine pure_ (i := 2) (N := some 39) (v := ?_) (a' := ?_) #[true, true, true, true, false, false, true, false, false, false, false, false, false, false] rfl rfl (by kernel_rfl) (fun _ _ _ h => h) (Or.inl ⟨by rfl, ?_⟩) ?_ ?_
  rotate_left; (intro w'; go_simp; rw [if_neg (by omega)])
  rotate_left; (go_frame; rfl)
  refine one_ (i := 4) (N := some 41) #[true, true, true, true, true, false, true, false, false, false, false, false, false, false] rfl rfl (by kernel_rfl) (by decide) (fun K hK => ?_)
  refine goes_ Tryd.func20 (by kernel_rfl) rfl #[.agg #[.int .u64 (T1 : Int), .int .u64 (T2 : Int), .int .u64 (T3 : Int), .string ⟨#[]⟩, .string ⟨#[]⟩]] (by rfl) rfl rfl (by (try simp only [List.map_toArray, List.map_cons, List.map_nil]); first | done | rfl) ?_
  refine (HT2.out u1).mono ?_
  rintro e u2 ⟨rfl, hb⟩
  have HU2 := Lib.hid (show u2.heap[GF]? = some (.cells #[.int .u64 (F1 : Int), .int .u64 (F2 : Int), .int .u64 (F3 : Int), .string ⟨#[]⟩, .string ⟨#[]⟩] 24 (0, 0)) ∧ u2.heap[GT]? = some (.cells #[.int .u64 (T1 : Int), .int .u64 (T2 : Int), .int .u64 (T3 : Int), .string ⟨#[]⟩, .string ⟨#[]⟩] 24 (0, 0)) ∧ u2.heap[GV]? = some (.cells #[.int .u64 (V1 : Int), .int .u64 (V2 : Int), .int .u64 (V3 : Int), .string ⟨#[]⟩, .string ⟨#[]⟩] 24 (0, 0)) from ⟨blk_below HU1.out.1 hb, blk_below HU1.out.2.1 hb, blk_below HU1.out.2.2 hb⟩)
  have HK2 := Lib.hid (HK1.out.trans (hb.mono HK1.out.size))
  clear hb HU1 HK1
  refine ⟨_, rfl, ?_⟩
  clear hHeld
  refine hK.out _ _ (HU2.out) (fun hHeld => ?_)
  clear hK K
  refine norm_ (a' := ?_) ?_ ?_
  rotate_left
  · show Act.put _ (some 41) _ = _
    go_frame
    rfl
  refine pure_ (i := 5) (N := some 42) (v := ?_) (a' := ?_) #[true, true, true, true, true, true, true, false, false, false, false, false, false, false] rfl rfl (by kernel_rfl) (fun _ _ _ h => h) (Or.inl ⟨by rfl, ?_⟩) ?_ ?_
  rotate_left; (intro w'; go_simp; rw [if_neg (by omega)])
  rotate_left; (go_frame; rfl)
  refine one_ (i := 7) (N := some 44) #[true, true, true, true, true, true, true, true, false, false, false, false, false, false] rfl rfl (by kernel_rfl) (by decide) (fun K hK => ?_)
  refine goes_ Tryd.func20 (by kernel_rfl) rfl #[.agg #[.int .u64 (V1 : Int), .int .u64 (V2 : Int), .int .u64 (V3 : Int), .string ⟨#[]⟩, .string ⟨#[]⟩]] (by rfl) rfl rfl (by (try simp only [List.map_toArray, List.map_cons, List.map_nil]); first | done | rfl) ?_
  refine (HT3.out u2).mono ?_
  rintro e u3 ⟨rfl, hb⟩
  have HU3 := Lib.hid (show u3.heap[GF]? = some (.cells #[.int .u64 (F1 : Int), .int .u64 (F2 : Int), .int .u64 (F3 : Int), .string ⟨#[]⟩, .string ⟨#[]⟩] 24 (0, 0)) ∧ u3.heap[GT]? = some (.cells #[.int .u64 (T1 : Int), .int .u64 (T2 : Int), .int .u64 (T3 : Int), .string ⟨#[]⟩, .string ⟨#[]⟩] 24 (0, 0)) ∧ u3.heap[GV]? = some (.cells #[.int .u64 (V1 : Int), .int .u64 (V2 : Int), .int .u64 (V3 : Int), .string ⟨#[]⟩, .string ⟨#[]⟩] 24 (0, 0)) from ⟨blk_below HU2.out.1 hb, blk_below HU2.out.2.1 hb, blk_below HU2.out.2.2 hb⟩)
  have HK3 := Lib.hid (HK2.out.trans (hb.mono HK2.out.size))
  clear hb HU2 HK2
  refine ⟨_, rfl, ?_⟩
  clear hHeld
  refine hK.out _ _ (HU3.out) (fun hHeld => ?_)
  clear hK K
  refine norm_ (a' := ?_) ?_ ?_
  rotate_left
  · show Act.put _ (some 44) _ = _
    go_frame
    rfl
  refine one_ (i := 8) (N := some 45) #[true, true, true, true, true, true, true, true, true, false, false, false, false, false] rfl rfl (by kernel_rfl) (by decide) (fun K hK => ?_)
  refine goes_ Tryd.func24 (by kernel_rfl) rfl #[.string ((X1 ++ ⟨#[32, 45, 32]⟩) ++ X2), .string X3] (by rfl) rfl rfl (by (try simp only [List.map_toArray, List.map_cons, List.map_nil]); first | done | rfl) ?_
  refine (HC.out u3 HK3.out).mono ?_
  rintro e u4 ⟨rfl, hb⟩
  have HU4 := Lib.hid (show u4.heap[GF]? = some (.cells #[.int .u64 (F1 : Int), .int .u64 (F2 : Int), .int .u64 (F3 : Int), .string ⟨#[]⟩, .string ⟨#[]⟩] 24 (0, 0)) ∧ u4.heap[GT]? = some (.cells #[.int .u64 (T1 : Int), .int .u64 (T2 : Int), .int .u64 (T3 : Int), .string ⟨#[]⟩, .string ⟨#[]⟩] 24 (0, 0)) ∧ u4.heap[GV]? = some (.cells #[.int .u64 (V1 : Int), .int .u64 (V2 : Int), .int .u64 (V3 : Int), .string ⟨#[]⟩, .string ⟨#[]⟩] 24 (0, 0)) from ⟨blk_below HU3.out.1 hb, blk_below HU3.out.2.1 hb, blk_below HU3.out.2.2 hb⟩)
  have HK4 := Lib.hid (HK3.out.trans (hb.mono HK3.out.size))
  clear hb HU3 HK3
  refine ⟨_, rfl, ?_⟩
  clear hHeld
  refine hK.out _ _ (HU4.out) (fun hHeld => ?_)
  clear hK K
  refine norm_ (a' := ?_) ?_ ?_
  rotate_left
  · show Act.put _ (some 45) _ = _
    go_frame
    rfl
  refine pure_ (i := 9) (N := some 36) (v := ?_) (a' := ?_) #[true, true, true, true, true, true, true, true, true, true, false, false, false, false] rfl rfl (by kernel_rfl) (fun _ _ _ h => h) (Or.inl ⟨by rfl, ?_⟩) ?_ ?_
  rotate_left; (intro w'; go_simp; with_reducible rfl)
  rotate_left; (go_frame; rfl)
  refine pure_ (i := 10) (N := some 46) (v := ?_) (a' := ?_) #[true, true, true, true, true, true, true, true, true, true, true, false, false, false] rfl rfl (by kernel_rfl) (fun _ _ _ h => h) (Or.inl ⟨by rfl, ?_⟩) ?_ ?_
  rotate_left; (intro w'; go_simp; with_reducible rfl)
  rotate_left; (go_frame; rfl)
  refine pure_ (i := 11) (N := some 47) (v := ?_) (a' := ?_) #[true, true, true, true, true, true, true, true, true, true, true, true, false, false] rfl rfl (by kernel_rfl) (fun _ _ _ h => h) (Or.inl ⟨by rfl, ?_⟩) ?_ ?_
  rotate_left; (intro w'; go_simp; with_reducible rfl)
  rotate_left; (go_frame; rfl)
  refine pure_ (i := 12) (N := some 22) (v := ?_) (a' := ?_) #[true, true, true, true, true, true, true, true, true, true, true, true, true, false] rfl rfl (by kernel_rfl) (fun _ _ _ h => h) (Or.inl ⟨by rfl, ?_⟩) ?_ ?_
  rotate_left; (intro w'; go_simp; with_reducible rfl)
  rotate_left; (go_frame; rfl)
  refine pure_ (i := 13) (N := some 23) (v := ?_) (a' := ?_) #[true, true, true, true, true, true, true, true, true, true, true, true, true, true] rfl rfl (by kernel_rfl) (fun _ _ _ h => h) (Or.inl ⟨by rfl, ?_⟩) ?_ ?_
  rotate_left; (intro w'; go_simp; with_reducible rfl)
  rotate_left; (go_frame; rfl)
  refine done_ (by kernel_rfl) ?_
  clear hHeld
  have HD1' := HD1.out
  have HD2' := HD2.out
  have HBB' := HBB.out
  have p0 := blk_cell HU4.out.1 0
  have p1 := blk_cell HU4.out.1 1
  have p2 := blk_cell HU4.out.1 2
  have p3 := blk_cell HU4.out.1 3
  have p4 := blk_cell HU4.out.1 4
  simp only [List.getElem?_toArray, List.getElem?_cons_zero, List.getElem?_cons_succ] at p0 p1 p2 p3 p4
  have q0 := blk_cell HU4.out.2.1 0
  have q1 := blk_cell HU4.out.2.1 1
  have q2 := blk_cell HU4.out.2.1 2
  have q3 := blk_cell HU4.out.2.1 3
  have q4 := blk_cell HU4.out.2.1 4
  simp only [List.getElem?_toArray, List.getElem?_cons_zero, List.getElem?_cons_succ] at q0 q1 q2 q3 q4
  have r0 := blk_cell HU4.out.2.2 0
  have r1 := blk_cell HU4.out.2.2 1
  have r2 := blk_cell HU4.out.2.2 2
  have r3 := blk_cell HU4.out.2.2 3
  have r4 := blk_cell HU4.out.2.2 4
  simp only [List.getElem?_toArray, List.getElem?_cons_zero, List.getElem?_cons_succ] at r0 r1 r2 r3 r4
  go_wp2_with fail
  refine (HO1.out _).mono ?_
  rintro e w5 ⟨rfl, hb⟩
  have HU5 := Lib.hid (show w5.heap[GF]? = some (.cells #[.int .u64 (F1 : Int), .int .u64 (F2 : Int), .int .u64 (F3 : Int), .string ⟨#[]⟩, .string ⟨#[]⟩] 24 (0, 0)) ∧ w5.heap[GT]? = some (.cells #[.int .u64 (T1 : Int), .int .u64 (T2 : Int), .int .u64 (T3 : Int), .string ⟨#[]⟩, .string ⟨#[]⟩] 24 (0, 0)) ∧ w5.heap[GV]? = some (.cells #[.int .u64 (V1 : Int), .int .u64 (V2 : Int), .int .u64 (V3 : Int), .string ⟨#[]⟩, .string ⟨#[]⟩] 24 (0, 0)) from ⟨blk_below HU4.out.1 hb, blk_below HU4.out.2.1 hb, blk_below HU4.out.2.2 hb⟩)
  have HK5 := Lib.hid (HK4.out.trans (hb.mono HK4.out.size))
  clear hb HU4 HK4 HO1
  clear p0 p1 p2 p3 p4 q0 q1 q2 q3 q4 r0 r1 r2 r3 r4
  cases b1 with
  | true =>
    have p0 := blk_cell HU5.out.1 0
    have p1 := blk_cell HU5.out.1 1
    have p2 := blk_cell HU5.out.1 2
    have p3 := blk_cell HU5.out.1 3
    have p4 := blk_cell HU5.out.1 4
    simp only [List.getElem?_toArray, List.getElem?_cons_zero, List.getElem?_cons_succ] at p0 p1 p2 p3 p4
    have q0 := blk_cell HU5.out.2.1 0
    have q1 := blk_cell HU5.out.2.1 1
    have q2 := blk_cell HU5.out.2.1 2
    have q3 := blk_cell HU5.out.2.1 3
    have q4 := blk_cell HU5.out.2.1 4
    simp only [List.getElem?_toArray, List.getElem?_cons_zero, List.getElem?_cons_succ] at q0 q1 q2 q3 q4
    have r0 := blk_cell HU5.out.2.2 0
    have r1 := blk_cell HU5.out.2.2 1
    have r2 := blk_cell HU5.out.2.2 2
    have r3 := blk_cell HU5.out.2.2 3
    have r4 := blk_cell HU5.out.2.2 4
    simp only [List.getElem?_toArray, List.getElem?_cons_zero, List.getElem?_cons_succ] at r0 r1 r2 r3 r4
    go_wp2_with fail
    refine (HO2.out _).mono ?_
    rintro e w6 ⟨rfl, hb⟩
    have HU6 := Lib.hid (show w6.heap[GF]? = some (.cells #[.int .u64 (F1 : Int), .int .u64 (F2 : Int), .int .u64 (F3 : Int), .string ⟨#[]⟩, .string ⟨#[]⟩] 24 (0, 0)) ∧ w6.heap[GT]? = some (.cells #[.int .u64 (T1 : Int), .int .u64 (T2 : Int), .int .u64 (T3 : Int), .string ⟨#[]⟩, .string ⟨#[]⟩] 24 (0, 0)) ∧ w6.heap[GV]? = some (.cells #[.int .u64 (V1 : Int), .int .u64 (V2 : Int), .int .u64 (V3 : Int), .string ⟨#[]⟩, .string ⟨#[]⟩] 24 (0, 0)) from ⟨blk_below HU5.out.1 hb, blk_below HU5.out.2.1 hb, blk_below HU5.out.2.2 hb⟩)
    have HK6 := Lib.hid (HK5.out.trans (hb.mono HK5.out.size))
    clear hb HU5 HK5 HO2
    clear p0 p1 p2 p3 p4 q0 q1 q2 q3 q4 r0 r1 r2 r3 r4
    cases b2 with
    | true =>
      (try rw [show bb = true from HBB'])
      go_wp2
      go_ret
      exact ⟨rfl, HK6.out⟩
    | false =>
      (try rw [show bb = false from HBB'])
      go_wp2
      go_ret
      exact ⟨rfl, HK6.out⟩
  | false =>
    (try rw [show bb = false from HBB'])
    go_wp2
    go_ret
    exact ⟨rfl, HK5.out⟩
end Go.Proofs.YtlhijjfbcgconaaDoor.P


/- Ranges: the law FnRangeTilde. -/
set_option linter.unusedVariables false
set_option linter.unusedSimpArgs false
namespace Go.Proofs.YtlhijjfbcgconaaDoor.P
open Go.RowKit Go.Proofs.YtlhijjfbcgconaaDoorW.PrintWords Go.Proofs.YtlhijjfbcgconaaDoorW.PrintLast Go.Proofs.YtlhijjfbcgconaaDoorW.PrintMore

theorem v16_call (a b c : Int) {A B C : Nat} (ha : IntKind.u64.wrap (Int.tmod a 1000) = (A : Int)) (hb : IntKind.u64.wrap (Int.tmod b 1000) = (B : Int)) (hc : IntKind.u64.wrap (Int.tmod c 1000) = (C : Int)) (W : World) :
    Calls Tryd.prog 21 #[.int .u16 a, .int .u16 b, .int .u16 c] W fun e w' => e = .returned (.agg #[.int .u64 (A : Int), .int .u64 (B : Int), .int .u64 (C : Int), .string ⟨#[]⟩, .string ⟨#[]⟩]) ∧ Below W.heap.size W w' :=
  laws_version16of.calls a b c _ _ _ _ _ W (by unfold laws_version16of.f; rw [ha, hb, hc])
end Go.Proofs.YtlhijjfbcgconaaDoor.P


/- Ranges: the law FnRangeHyphen. -/
set_option linter.unusedVariables false
set_option linter.unusedSimpArgs false
namespace Go.Proofs.YtlhijjfbcgconaaDoor.P
open Go.RowKit Go.Proofs.YtlhijjfbcgconaaDoorW.PrintWords Go.Proofs.YtlhijjfbcgconaaDoorW.PrintLast Go.Proofs.YtlhijjfbcgconaaDoorW.PrintMore

set_option maxHeartbeats 3200000 in
set_option maxRecDepth 100000 in
theorem fnRangeHyphen (i0 i1 i2 i3 i4 i5 i6 i7 i8 : Int) (w : World) (k0 : (Lit.int IntKind.u16 i0).wf = true) (k1 : (Lit.int IntKind.u16 i1).wf = true) (k2 : (Lit.int IntKind.u16 i2).wf = true) (k3 : (Lit.int IntKind.u16 i3).wf = true) (k4 : (Lit.int IntKind.u16 i4).wf = true) (k5 : (Lit.int IntKind.u16 i5).wf = true) (k6 : (Lit.int IntKind.u16 i6).wf = true) (k7 : (Lit.int IntKind.u16 i7).wf = true) (k8 : (Lit.int IntKind.u16 i8).wf = true) (hE : TabsE w) :
    Calls Tryd.prog 8 #[.int .u16 i0, .int .u16 i1, .int .u16 i2, .int .u16 i3, .int .u16 i4, .int .u16 i5, .int .u16 i6, .int .u16 i7, .int .u16 i8] w fun e w' => e = .returned (.bool true) ∧ Below w.heap.size w w' := by
  obtain ⟨a, ha, ea, -⟩ := num16 i0 k0
  obtain ⟨b, hb, eb, -⟩ := num16 i1 k1
  obtain ⟨c, hc, ec, -⟩ := num16 i2 k2
  obtain ⟨d, hd, ed, -⟩ := num16 i3 k3
  obtain ⟨e, he, ee, -⟩ := num16 i4 k4
  obtain ⟨f, hf, ef, -⟩ := num16 i5 k5
  obtain ⟨v1, h1, e1, -⟩ := num16 i6 k6
  obtain ⟨v2, h2, e2, -⟩ := num16 i7 k7
  obtain ⟨v3, h3, e3, -⟩ := num16 i8 k8
  have x1 := (vsize a b c ha hb hc).2
  have x2 := (vsize d e f hd he hf).2
  exact hyphen_walk i0 i1 i2 i3 i4 i5 i6 i7 i8 (F1 := a) (F2 := b) (F3 := c) (T1 := d) (T2 := e) (T3 := f) (V1 := v1) (V2 := v2) (V3 := v3) (X1 := verT a b c) (X2 := verT d e f) (X3 := verT v1 v2 v3) (O1 := ord3 v1 v2 v3 a b c) (O2 := ord3 v1 v2 v3 d e f) (by omega) (by omega) rfl rfl
    (fun W => v16_call i0 i1 i2 ea eb ec W) (fun W => v16_call i3 i4 i5 ed ee ef W) (fun W => v16_call i6 i7 i8 e1 e2 e3 W) (fun W => text_call a b c ha hb hc W) (fun W => text_call d e f hd he hf W) (fun W => text_call v1 v2 v3 h1 h2 h3 W)
    (fun W => order_call _ _ _ _ _ _ ⟨#[]⟩ ⟨#[]⟩ ⟨#[]⟩ ⟨#[]⟩ W) (fun W => order_call _ _ _ _ _ _ ⟨#[]⟩ ⟨#[]⟩ ⟨#[]⟩ ⟨#[]⟩ W) w
    (fun W hW => compare_hyphen a b c d e f v1 v2 v3 ha hb hc hd he hf h1 h2 h3 _ (by rw [append_list, append_list, List.append_assoc]) W (hE.below hW))
end Go.Proofs.YtlhijjfbcgconaaDoor.P

