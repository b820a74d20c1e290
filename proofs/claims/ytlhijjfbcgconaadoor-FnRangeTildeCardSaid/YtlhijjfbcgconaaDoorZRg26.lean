/- Ranges: the walk of the law FnRangeTilde; what it calls is told by hypotheses. -/
import Derived.Test.YtlhijjfbcgconaaDoorZXw
import Derived.Test.YtlhijjfbcgconaaDoorZPx0
import Derived.Lib.Hide
set_option linter.unusedVariables false
set_option linter.unusedSimpArgs false
namespace Go.Proofs.YtlhijjfbcgconaaDoor.P
open Go.RowKit Go.Proofs.YtlhijjfbcgconaaDoorW.PrintWords Go.Proofs.YtlhijjfbcgconaaDoorW.PrintLast Go.Proofs.YtlhijjfbcgconaaDoorW.PrintMore

theorem num16 (a : Int) (h : (Lit.int IntKind.u16 a).wf = true) : ∃ A : Nat, A < 1000 ∧ IntKind.u64.wrap (Int.tmod a 1000) = (A : Int) ∧ Int.tmod a 1000 = (A : Int) := by
  simp only [Lit.wf, IntKind.min, IntKind.max, IntKind.signed, IntKind.bits, Bool.and_eq_true, decide_eq_true_eq] at h
  obtain ⟨h0, h1⟩ : 0 ≤ a ∧ a ≤ 65535 := by
    simp at h
    omega
  have h2 : Int.tmod a 1000 = a % 1000 := Int.tmod_eq_emod_of_nonneg h0
  refine ⟨(a % 1000).toNat, by omega, ?_, by rw [h2]; omega⟩
  rw [h2]
  have : IntKind.u64.wrap (a % 1000) = a % 1000 := by
    simp only [IntKind.wrap, IntKind.signed, IntKind.bits]
    simp
    omega
  rw [this]
  omega
set_option maxHeartbeats 6400000 in
set_option maxRecDepth 100000 in
theorem tilde_walk (i0 i1 i2 i3 i4 i5 : Int) {A B C D E F : Nat} {n1 n2 : Nat} {T1 T2 T3 : ByteArray} (hA : A < 1000) (hB : B < 1000) (z1 : T1.size = n1 + 4) (z2 : T2.size = n2 + 2) (y1 : T1.size ≤ 100) (y2 : T2.size ≤ 100) (y3 : T3.size ≤ 100)
    (hv : ∀ W, Calls Tryd.prog 21 #[.int .u16 i0, .int .u16 i1, .int .u16 i2] W fun e w' => e = .returned (.agg #[.int .u64 (A : Int), .int .u64 (B : Int), .int .u64 (C : Int), .string ⟨#[]⟩, .string ⟨#[]⟩]) ∧ Below W.heap.size W w')
    (hw : ∀ W, Calls Tryd.prog 21 #[.int .u16 i3, .int .u16 i4, .int .u16 i5] W fun e w' => e = .returned (.agg #[.int .u64 (D : Int), .int .u64 (E : Int), .int .u64 (F : Int), .string ⟨#[]⟩, .string ⟨#[]⟩]) ∧ Below W.heap.size W w')
    (ht1 : ∀ W, Calls Tryd.prog 20 #[.agg #[.int .u64 (A : Int), .int .u64 0, .int .u64 0, .string ⟨#[]⟩, .string ⟨#[]⟩]] W fun e w' => e = .returned (.string T1) ∧ Below W.heap.size W w')
    (ht2 : ∀ W, Calls Tryd.prog 20 #[.agg #[.int .u64 (A : Int), .int .u64 (B : Int), .int .u64 0, .string ⟨#[]⟩, .string ⟨#[]⟩]] W fun e w' => e = .returned (.string T2) ∧ Below W.heap.size W w')
    (ht3 : ∀ W, Calls Tryd.prog 20 #[.agg #[.int .u64 (A : Int), .int .u64 (B : Int), .int .u64 (C : Int), .string ⟨#[]⟩, .string ⟨#[]⟩]] W fun e w' => e = .returned (.string T3) ∧ Below W.heap.size W w')
    (w : World)
    (hr3 : A ≠ 0 → ∀ W, Below w.heap.size w W → Calls Tryd.prog 23 #[.string (⟨#[126]⟩ ++ T3), .agg #[.int .u64 (D : Int), .int .u64 (E : Int), .int .u64 (F : Int), .string ⟨#[]⟩, .string ⟨#[]⟩], .agg #[.int .u64 (A : Int), .int .u64 (B : Int), .int .u64 (C : Int), .string ⟨#[]⟩, .string ⟨#[]⟩], .agg #[.int .u64 (A : Int), .int .u64 ((B : Int) + 1), .int .u64 0, .string ⟨#[]⟩, .string ⟨#[]⟩]] W fun e w' => e = .returned (.bool true) ∧ Below W.heap.size W w')
    (hr2 : A ≠ 0 → ∀ W, Below w.heap.size w W → Calls Tryd.prog 23 #[.string (⟨#[126]⟩ ++ T2.extract 0 n2), .agg #[.int .u64 (D : Int), .int .u64 (E : Int), .int .u64 (F : Int), .string ⟨#[]⟩, .string ⟨#[]⟩], .agg #[.int .u64 (A : Int), .int .u64 (B : Int), .int .u64 0, .string ⟨#[]⟩, .string ⟨#[]⟩], .agg #[.int .u64 (A : Int), .int .u64 ((B : Int) + 1), .int .u64 0, .string ⟨#[]⟩, .string ⟨#[]⟩]] W fun e w' => e = .returned (.bool true) ∧ Below W.heap.size W w')
    (hr1 : A ≠ 0 → ∀ W, Below w.heap.size w W → Calls Tryd.prog 23 #[.string (⟨#[126]⟩ ++ T1.extract 0 n1), .agg #[.int .u64 (D : Int), .int .u64 (E : Int), .int .u64 (F : Int), .string ⟨#[]⟩, .string ⟨#[]⟩], .agg #[.int .u64 (A : Int), .int .u64 0, .int .u64 0, .string ⟨#[]⟩, .string ⟨#[]⟩], .agg #[.int .u64 ((A : Int) + 1), .int .u64 0, .int .u64 0, .string ⟨#[]⟩, .string ⟨#[]⟩]] W fun e w' => e = .returned (.bool true) ∧ Below W.heap.size W w') :
    Calls Tryd.prog 9 #[.int .u16 i0, .int .u16 i1, .int .u16 i2, .int .u16 i3, .int .u16 i4, .int .u16 i5] w fun e w' => e = .returned (.bool true) ∧ Below w.heap.size w w' := by
  have HV := Lib.hid hv
  have HW := Lib.hid hw
  have HT1 := Lib.hid ht1
  have HT2 := Lib.hid ht2
  have HT3 := Lib.hid ht3
  have HR3 := Lib.hid hr3
  have HR2 := Lib.hid hr2
  have HR1 := Lib.hid hr1
  have HB0 := Lib.hid (Below.refl w.heap.size w)
  have x2 : IntKind.i64.wrap (n2 : Int) = (n2 : Int) := by
    simp only [IntKind.wrap, IntKind.signed, IntKind.bits]
    simp
    omega
  have x1 : IntKind.i64.wrap (n1 : Int) = (n1 : Int) := by
    simp only [IntKind.wrap, IntKind.signed, IntKind.bits]
    simp
    omega
  have c3 : 1 + T3.size ≤ 9223372036854775807 := by omega
  have c2 : 1 + (T2.extract 0 n2).size ≤ 9223372036854775807 := by rw [ByteArray.size_extract]; omega
  have c1 : 1 + (T1.extract 0 n1).size ≤ 9223372036854775807 := by rw [ByteArray.size_extract]; omega
  clear hv hw ht1 ht2 ht3 hr3 hr2 hr1
  go_enter Tryd.func9, Tryd.ntmps9
  go_wp2_with fail
  refine (HV.out _).mono ?_
  rintro e1 w1 ⟨rfl, hb⟩
  have HB1 := Lib.hid (HB0.out.trans (hb.mono HB0.out.size))
  clear hb HB0 HV
  go_wp2_with fail
  refine (HW.out _).mono ?_
  rintro e2 w2 ⟨rfl, hb⟩
  have HB2 := Lib.hid (HB1.out.trans (hb.mono HB1.out.size))
  clear hb HB1 HW
  go_upto_region 2 with fail
  have HB3 := Lib.hid ((HB2.out.alloc HB2.out.size (.cells #[.int .u64 (A : Int), .int .u64 (B : Int), .int .u64 (C : Int), .string ⟨#[]⟩, .string ⟨#[]⟩] 24)).alloc (by simp; have := HB2.out.size; omega) (.cells #[.int .u64 (D : Int), .int .u64 (E : Int), .int .u64 (F : Int), .string ⟨#[]⟩, .string ⟨#[]⟩] 24))
  have hS13 := blk_alloc (heap_alloc_new w2 (.cells #[.int .u64 (A : Int), .int .u64 (B : Int), .int .u64 (C : Int), .string ⟨#[]⟩, .string ⟨#[]⟩] 24)) (.cells #[.int .u64 (D : Int), .int .u64 (E : Int), .int .u64 (F : Int), .string ⟨#[]⟩, .string ⟨#[]⟩] 24)
  have hS14 := heap_alloc_new (w2.alloc (.cells #[.int .u64 (A : Int), .int .u64 (B : Int), .int .u64 (C : Int), .string ⟨#[]⟩, .string ⟨#[]⟩] 24)) (.cells #[.int .u64 (D : Int), .int .u64 (E : Int), .int .u64 (F : Int), .string ⟨#[]⟩, .string ⟨#[]⟩] 24)
  have hgw : (w2.alloc (.cells #[.int .u64 (A : Int), .int .u64 (B : Int), .int .u64 (C : Int), .string ⟨#[]⟩, .string ⟨#[]⟩] 24)).heap.size = w2.heap.size + 1 := by simp
  rw [hgw] at hS14
  have g13 := HB2.out.size
  clear hgw HB2
  generalize (w2.alloc (.cells #[.int .u64 (A : Int), .int .u64 (B : Int), .int .u64 (C : Int), .string ⟨#[]⟩, .string ⟨#[]⟩] 24)).alloc (.cells #[.int .u64 (D : Int), .int .u64 (E : Int), .int .u64 (F : Int), .string ⟨#[]⟩, .string ⟨#[]⟩] 24) = w3 at *
  obtain ⟨G13, hG13⟩ : ∃ g, g = w2.heap.size := ⟨_, rfl⟩
  rw [← hG13] at hS13 hS14 g13 ⊢
  obtain ⟨G14, hG14⟩ : ∃ g, g = G13 + 1 := ⟨_, rfl⟩
  rw [← hG14] at hS14 ⊢
  have HS13 := Lib.hid hS13
  have HS14 := Lib.hid hS14
  clear hS13 hS14 hG13 hG14
  have p0 := blk_cell HS13.out 0
  have p1 := blk_cell HS13.out 1
  have p2 := blk_cell HS13.out 2
  have p3 := blk_cell HS13.out 3
  have p4 := blk_cell HS13.out 4
  simp only [List.getElem?_toArray, List.getElem?_cons_zero, List.getElem?_cons_succ] at p0 p1 p2 p3 p4
  by_cases hA0 : A = 0
  · have d0 : ((A : Int) == 0) = true := beq_iff_eq.2 (by omega)
    go_wp2
    go_ret
    exact ⟨rfl, HB3.out⟩
  have d0 : ((A : Int) == 0) = false := beq_eq_false_iff_ne.2 (by omega)
  have HR3 := Lib.hid (HR3.out hA0)
  have HR2 := Lib.hid (HR2.out hA0)
  have HR1 := Lib.hid (HR1.out hA0)
  have q64 : IntKind.u64.wrap ((B : Int) + 1) = (B : Int) + 1 := by
    simp only [IntKind.wrap, IntKind.signed, IntKind.bits]
    simp
    omega
  have q64a : IntKind.u64.wrap ((A : Int) + 1) = (A : Int) + 1 := by
    simp only [IntKind.wrap, IntKind.signed, IntKind.bits]
    simp
    omega
  go_upto_region 5 with fail
  have HB4 := Lib.hid (HB3.out.alloc HB3.out.size (.cells #[.int .u64 (A : Int), .int .u64 ((B : Int) + 1), .int .u64 0, .string ⟨#[]⟩, .string ⟨#[]⟩] 24))
  have hS15 := heap_alloc_new w3 (.cells #[.int .u64 (A : Int), .int .u64 ((B : Int) + 1), .int .u64 0, .string ⟨#[]⟩, .string ⟨#[]⟩] 24)
  have HS13' := Lib.hid (blk_alloc HS13.out (.cells #[.int .u64 (A : Int), .int .u64 ((B : Int) + 1), .int .u64 0, .string ⟨#[]⟩, .string ⟨#[]⟩] 24))
  have HS14' := Lib.hid (blk_alloc HS14.out (.cells #[.int .u64 (A : Int), .int .u64 ((B : Int) + 1), .int .u64 0, .string ⟨#[]⟩, .string ⟨#[]⟩] 24))
  clear HB3 HS13 HS14 p0 p1 p2 p3 p4
  generalize w3.alloc (.cells #[.int .u64 (A : Int), .int .u64 ((B : Int) + 1), .int .u64 0, .string ⟨#[]⟩, .string ⟨#[]⟩] 24) = w4 at *
  generalize w3.heap.size = G15 at *
  have HS := Lib.hid (show w4.heap[G13]? = some (.cells #[.int .u64 (A : Int), .int .u64 (B : Int), .int .u64 (C : Int), .string ⟨#[]⟩, .string ⟨#[]⟩] 24 (0, 0)) ∧ w4.heap[G14]? = some (.cells #[.int .u64 (D : Int), .int .u64 (E : Int), .int .u64 (F : Int), .string ⟨#[]⟩, .string ⟨#[]⟩] 24 (0, 0)) ∧ w4.heap[G15]? = some (.cells #[.int .u64 (A : Int), .int .u64 ((B : Int) + 1), .int .u64 0, .string ⟨#[]⟩, .string ⟨#[]⟩] 24 (0, 0)) from ⟨HS13'.out, HS14'.out, hS15⟩)
  clear HS13' HS14' hS15
  have HSd := Lib.hid (show w4.drew.heap[G13]? = some (.cells #[.int .u64 (A : Int), .int .u64 (B : Int), .int .u64 (C : Int), .string ⟨#[]⟩, .string ⟨#[]⟩] 24 (0, 0)) ∧ w4.drew.heap[G14]? = some (.cells #[.int .u64 (D : Int), .int .u64 (E : Int), .int .u64 (F : Int), .string ⟨#[]⟩, .string ⟨#[]⟩] 24 (0, 0)) ∧ w4.drew.heap[G15]? = some (.cells #[.int .u64 (A : Int), .int .u64 ((B : Int) + 1), .int .u64 0, .string ⟨#[]⟩, .string ⟨#[]⟩] 24 (0, 0)) from HS.out)
  have HBd := Lib.hid (show Below w.heap.size w w4.drew from HB4.out.drew)
  clear HS HB4
  refine start_ (n := 12) (ds := []) (S := fun w' => w'.heap[G13]? = some (.cells #[.int .u64 (A : Int), .int .u64 (B : Int), .int .u64 (C : Int), .string ⟨#[]⟩, .string ⟨#[]⟩] 24 (0, 0)) ∧ w'.heap[G14]? = some (.cells #[.int .u64 (D : Int), .int .u64 (E : Int), .int .u64 (F : Int), .string ⟨#[]⟩, .string ⟨#[]⟩] 24 (0, 0)) ∧ w'.heap[G15]? = some (.cells #[.int .u64 (A : Int), .int .u64 ((B : Int) + 1), .int .u64 0, .string ⟨#[]⟩, .string ⟨#[]⟩] 24 (0, 0))) #[false, false, false, false, false, false, false, false, false, false, false, false] (by kernel_rfl) rfl rfl (HSd.out) (fun hHeld => ?_)
  generalize w4.drew = v0 at *
  refine pure_ (i := 0) (N := some 35) (v := ?_) (a' := ?_) #[true, false, false, false, false, false, false, false, false, false, false, false] rfl rfl (by kernel_rfl) (fun _ _ _ h => h) (Or.inl ⟨by rfl, ?_⟩) ?_ ?_
  rotate_left; (intro w'; go_simp; with_reducible rfl)
  rotate_left; (go_frame; rfl)
  refine take_ (i := 1) (N := some 36) (v := ?_) (a' := ?_) #[true, true, false, false, false, false, false, false, false, false, false, false] rfl rfl (by kernel_rfl) (fun _ _ _ h => h) (Or.inl ⟨by rfl, ?_⟩) hHeld ?_ ?_
  rotate_left
  · intro w' hS
    obtain ⟨hS, _, _⟩ := hS
    have y0 := blk_cell hS 0
    have y1 := blk_cell hS 1
    have y2 := blk_cell hS 2
    have y3 := blk_cell hS 3
    have y4 := blk_cell hS 4
    simp only [List.getElem?_toArray, List.getElem?_cons_zero, List.getElem?_cons_succ] at y0 y1 y2 y3 y4
    clear hS
    go_simp
    with_reducible rfl
  rotate_left; (go_frame; rfl)
  refine pure_ (i := 2) (N := some 37) (v := ?_) (a' := ?_) #[true, true, true, false, false, false, false, false, false, false, false, false] rfl rfl (by kernel_rfl) (fun _ _ _ h => h) (Or.inl ⟨by rfl, ?_⟩) ?_ ?_
  rotate_left; (intro w'; go_simp; with_reducible rfl)
  rotate_left; (go_frame; rfl)
  refine pure_ (i := 4) (N := some 39) (v := ?_) (a' := ?_) #[true, true, true, false, true, false, false, false, false, false, false, false] rfl rfl (by kernel_rfl) (fun _ _ _ h => h) (Or.inl ⟨by rfl, ?_⟩) ?_ ?_
  rotate_left; (intro w'; go_simp; with_reducible rfl)
  rotate_left; (go_frame; rfl)
  refine take_ (i := 5) (N := some 40) (v := ?_) (a' := ?_) #[true, true, true, false, true, true, false, false, false, false, false, false] rfl rfl (by kernel_rfl) (fun _ _ _ h => h) (Or.inl ⟨by rfl, ?_⟩) hHeld ?_ ?_
  rotate_left
  · intro w' hS
    obtain ⟨hS, _, _⟩ := hS
    have y0 := blk_cell hS 0
    have y1 := blk_cell hS 1
    have y2 := blk_cell hS 2
    have y3 := blk_cell hS 3
    have y4 := blk_cell hS 4
    simp only [List.getElem?_toArray, List.getElem?_cons_zero, List.getElem?_cons_succ] at y0 y1 y2 y3 y4
    clear hS
    go_simp
    with_reducible rfl
  rotate_left; (go_frame; rfl)
  refine pure_ (i := 6) (N := some 41) (v := ?_) (a' := ?_) #[true, true, true, false, true, true, true, false, false, false, false, false] rfl rfl (by kernel_rfl) (fun _ _ _ h => h) (Or.inl ⟨by rfl, ?_⟩) ?_ ?_
  rotate_left; (intro w'; go_simp; with_reducible rfl)
  rotate_left; (go_frame; rfl)
  refine take_ (i := 7) (N := some 42) (v := ?_) (a' := ?_) #[true, true, true, false, true, true, true, true, false, false, false, false] rfl rfl (by kernel_rfl) (fun _ _ _ h => h) (Or.inl ⟨by rfl, ?_⟩) hHeld ?_ ?_
  rotate_left
  · intro w' hS
    obtain ⟨hS, _, _⟩ := hS
    have y0 := blk_cell hS 0
    have y1 := blk_cell hS 1
    have y2 := blk_cell hS 2
    have y3 := blk_cell hS 3
    have y4 := blk_cell hS 4
    simp only [List.getElem?_toArray, List.getElem?_cons_zero, List.getElem?_cons_succ] at y0 y1 y2 y3 y4
    clear hS
    go_simp
    with_reducible rfl
  rotate_left; (go_frame; rfl)
  refine pure_ (i := 8) (N := some 43) (v := ?_) (a' := ?_) #[true, true, true, false, true, true, true, true, true, false, false, false] rfl rfl (by kernel_rfl) (fun _ _ _ h => h) (Or.inl ⟨by rfl, ?_⟩) ?_ ?_
  rotate_left; (intro w'; go_simp; with_reducible rfl)
  rotate_left; (go_frame; rfl)
  refine one_ (i := 3) (N := some 38) #[true, true, true, true, true, true, true, true, true, false, false, false] rfl rfl (by kernel_rfl) (by decide) (fun K hK => ?_)
  refine goes_ Tryd.func20 (by kernel_rfl) rfl #[.agg #[.int .u64 (A : Int), .int .u64 0, .int .u64 0, .string ⟨#[]⟩, .string ⟨#[]⟩]] (by rfl) rfl rfl (by (try simp only [List.map_toArray, List.map_cons, List.map_nil]); first | done | rfl) ?_
  refine (HT1.out v0).mono ?_
  rintro e v1 ⟨rfl, hb⟩
  have HS1 := Lib.hid (show v1.heap[G13]? = some (.cells #[.int .u64 (A : Int), .int .u64 (B : Int), .int .u64 (C : Int), .string ⟨#[]⟩, .string ⟨#[]⟩] 24 (0, 0)) ∧ v1.heap[G14]? = some (.cells #[.int .u64 (D : Int), .int .u64 (E : Int), .int .u64 (F : Int), .string ⟨#[]⟩, .string ⟨#[]⟩] 24 (0, 0)) ∧ v1.heap[G15]? = some (.cells #[.int .u64 (A : Int), .int .u64 ((B : Int) + 1), .int .u64 0, .string ⟨#[]⟩, .string ⟨#[]⟩] 24 (0, 0)) from ⟨blk_below HSd.out.1 hb, blk_below HSd.out.2.1 hb, blk_below HSd.out.2.2 hb⟩)
  have HB1 := Lib.hid (HBd.out.trans (hb.mono HBd.out.size))
  clear hb HSd HBd
  refine ⟨_, rfl, ?_⟩
  clear hHeld
  refine hK.out _ _ (HS1.out) (fun hHeld => ?_)
  clear hK K
  refine norm_ (a' := ?_) ?_ ?_
  rotate_left
  · show Act.put _ (some 38) _ = _
    go_frame
    rfl
  refine one_ (i := 9) (N := some 44) #[true, true, true, true, true, true, true, true, true, true, false, false] rfl rfl (by kernel_rfl) (by decide) (fun K hK => ?_)
  refine goes_ Tryd.func20 (by kernel_rfl) rfl #[.agg #[.int .u64 (A : Int), .int .u64 (B : Int), .int .u64 0, .string ⟨#[]⟩, .string ⟨#[]⟩]] (by rfl) rfl rfl (by (try simp only [List.map_toArray, List.map_cons, List.map_nil]); first | done | rfl) ?_
  refine (HT2.out v1).mono ?_
  rintro e v2 ⟨rfl, hb⟩
  have HS2 := Lib.hid (show v2.heap[G13]? = some (.cells #[.int .u64 (A : Int), .int .u64 (B : Int), .int .u64 (C : Int), .string ⟨#[]⟩, .string ⟨#[]⟩] 24 (0, 0)) ∧ v2.heap[G14]? = some (.cells #[.int .u64 (D : Int), .int .u64 (E : Int), .int .u64 (F : Int), .string ⟨#[]⟩, .string ⟨#[]⟩] 24 (0, 0)) ∧ v2.heap[G15]? = some (.cells #[.int .u64 (A : Int), .int .u64 ((B : Int) + 1), .int .u64 0, .string ⟨#[]⟩, .string ⟨#[]⟩] 24 (0, 0)) from ⟨blk_below HS1.out.1 hb, blk_below HS1.out.2.1 hb, blk_below HS1.out.2.2 hb⟩)
  have HB2 := Lib.hid (HB1.out.trans (hb.mono HB1.out.size))
  clear hb HS1 HB1
  refine ⟨_, rfl, ?_⟩
  clear hHeld
  refine hK.out _ _ (HS2.out) (fun hHeld => ?_)
  clear hK K
  refine norm_ (a' := ?_) ?_ ?_
  rotate_left
  · show Act.put _ (some 44) _ = _
    go_frame
    rfl
  refine pure_ (i := 10) (N := some 16) (v := ?_) (a' := ?_) #[true, true, true, true, true, true, true, true, true, true, true, false] rfl rfl (by kernel_rfl) (fun _ _ _ h => h) (Or.inl ⟨by rfl, ?_⟩) ?_ ?_
  rotate_left; (intro w'; go_simp; with_reducible rfl)
  rotate_left; (go_frame; rfl)
  refine pure_ (i := 11) (N := some 17) (v := ?_) (a' := ?_) #[true, true, true, true, true, true, true, true, true, true, true, true] rfl rfl (by kernel_rfl) (fun _ _ _ h => h) (Or.inl ⟨by rfl, ?_⟩) ?_ ?_
  rotate_left; (intro w'; go_simp; with_reducible rfl)
  rotate_left; (go_frame; rfl)
  refine done_ (by kernel_rfl) ?_
  clear hHeld
  go_upto_region 6 with fail
  have HSe := Lib.hid (show v2.drew.heap[G13]? = some (.cells #[.int .u64 (A : Int), .int .u64 (B : Int), .int .u64 (C : Int), .string ⟨#[]⟩, .string ⟨#[]⟩] 24 (0, 0)) ∧ v2.drew.heap[G14]? = some (.cells #[.int .u64 (D : Int), .int .u64 (E : Int), .int .u64 (F : Int), .string ⟨#[]⟩, .string ⟨#[]⟩] 24 (0, 0)) ∧ v2.drew.heap[G15]? = some (.cells #[.int .u64 (A : Int), .int .u64 ((B : Int) + 1), .int .u64 0, .string ⟨#[]⟩, .string ⟨#[]⟩] 24 (0, 0)) from HS2.out)
  have HBe := Lib.hid (show Below w.heap.size w v2.drew from HB2.out.drew)
  clear HS2 HB2
  refine start_ (n := 41) (ds := []) (S := fun w' => w'.heap[G13]? = some (.cells #[.int .u64 (A : Int), .int .u64 (B : Int), .int .u64 (C : Int), .string ⟨#[]⟩, .string ⟨#[]⟩] 24 (0, 0)) ∧ w'.heap[G14]? = some (.cells #[.int .u64 (D : Int), .int .u64 (E : Int), .int .u64 (F : Int), .string ⟨#[]⟩, .string ⟨#[]⟩] 24 (0, 0)) ∧ w'.heap[G15]? = some (.cells #[.int .u64 (A : Int), .int .u64 ((B : Int) + 1), .int .u64 0, .string ⟨#[]⟩, .string ⟨#[]⟩] 24 (0, 0))) #[false, false, false, false, false, false, false, false, false, false, false, false, false, false, false, false, false, false, false, false, false, false, false, false, false, false, false, false, false, false, false, false, false, false, false, false, false, false, false, false, false] (by kernel_rfl) rfl rfl (HSe.out) (fun hHeld => ?_)
  generalize v2.drew = u0 at *
  refine take_ (i := 0) (N := some 45) (v := ?_) (a' := ?_) #[true, false, false, false, false, false, false, false, false, false, false, false, false, false, false, false, false, false, false, false, false, false, false, false, false, false, false, false, false, false, false, false, false, false, false, false, false, false, false, false, false] rfl rfl (by kernel_rfl) (fun _ _ _ h => h) (Or.inl ⟨by rfl, ?_⟩) hHeld ?_ ?_
  rotate_left
  · intro w' hS
    obtain ⟨hS, _, _⟩ := hS
    have y0 := blk_cell hS 0
    have y1 := blk_cell hS 1
    have y2 := blk_cell hS 2
    have y3 := blk_cell hS 3
    have y4 := blk_cell hS 4
    simp only [List.getElem?_toArray, List.getElem?_cons_zero, List.getElem?_cons_succ] at y0 y1 y2 y3 y4
    clear hS
    go_simp
    with_reducible rfl
  rotate_left; (go_frame; rfl)
  refine take_ (i := 3) (N := some 48) (v := ?_) (a' := ?_) #[true, false, false, true, false, false, false, false, false, false, false, false, false, false, false, false, false, false, false, false, false, false, false, false, false, false, false, false, false, false, false, false, false, false, false, false, false, false, false, false, false] rfl rfl (by kernel_rfl) (fun _ _ _ h => h) (Or.inl ⟨by rfl, ?_⟩) hHeld ?_ ?_
  rotate_left
  · intro w' hS
    obtain ⟨_, hS, _⟩ := hS
    have y0 := blk_cell hS 0
    have y1 := blk_cell hS 1
    have y2 := blk_cell hS 2
    have y3 := blk_cell hS 3
    have y4 := blk_cell hS 4
    simp only [List.getElem?_toArray, List.getElem?_cons_zero, List.getElem?_cons_succ] at y0 y1 y2 y3 y4
    clear hS
    go_simp
    with_reducible rfl
  rotate_left; (go_frame; rfl)
  refine take_ (i := 4) (N := some 49) (v := ?_) (a' := ?_) #[true, false, false, true, true, false, false, false, false, false, false, false, false, false, false, false, false, false, false, false, false, false, false, false, false, false, false, false, false, false, false, false, false, false, false, false, false, false, false, false, false] rfl rfl (by kernel_rfl) (fun _ _ _ h => h) (Or.inl ⟨by rfl, ?_⟩) hHeld ?_ ?_
  rotate_left
  · intro w' hS
    obtain ⟨hS, _, _⟩ := hS
    have y0 := blk_cell hS 0
    have y1 := blk_cell hS 1
    have y2 := blk_cell hS 2
    have y3 := blk_cell hS 3
    have y4 := blk_cell hS 4
    simp only [List.getElem?_toArray, List.getElem?_cons_zero, List.getElem?_cons_succ] at y0 y1 y2 y3 y4
    clear hS
    go_simp
    with_reducible rfl
  rotate_left; (go_frame; rfl)
  refine take_ (i := 5) (N := some 50) (v := ?_) (a' := ?_) #[true, false, false, true, true, true, false, false, false, false, false, false, false, false, false, false, false, false, false, false, false, false, false, false, false, false, false, false, false, false, false, false, false, false, false, false, false, false, false, false, false] rfl rfl (by kernel_rfl) (fun _ _ _ h => h) (Or.inl ⟨by rfl, ?_⟩) hHeld ?_ ?_
  rotate_left
  · intro w' hS
    obtain ⟨_, _, hS⟩ := hS
    have y0 := blk_cell hS 0
    have y1 := blk_cell hS 1
    have y2 := blk_cell hS 2
    have y3 := blk_cell hS 3
    have y4 := blk_cell hS 4
    simp only [List.getElem?_toArray, List.getElem?_cons_zero, List.getElem?_cons_succ] at y0 y1 y2 y3 y4
    clear hS
    go_simp
    with_reducible rfl
  rotate_left; (go_frame; rfl)
  refine one_ (i := 1) (N := some 46) #[true, true, false, true, true, true, false, false, false, false, false, false, false, false, false, false, false, false, false, false, false, false, false, false, false, false, false, false, false, false, false, false, false, false, false, false, false, false, false, false, false] rfl rfl (by kernel_rfl) (by decide) (fun K hK => ?_)
  refine goes_ Tryd.func20 (by kernel_rfl) rfl #[.agg #[.int .u64 (A : Int), .int .u64 (B : Int), .int .u64 (C : Int), .string ⟨#[]⟩, .string ⟨#[]⟩]] (by rfl) rfl rfl (by (try simp only [List.map_toArray, List.map_cons, List.map_nil]); first | done | rfl) ?_
  refine (HT3.out u0).mono ?_
  rintro e u1 ⟨rfl, hb⟩
  have HU1 := Lib.hid (show u1.heap[G13]? = some (.cells #[.int .u64 (A : Int), .int .u64 (B : Int), .int .u64 (C : Int), .string ⟨#[]⟩, .string ⟨#[]⟩] 24 (0, 0)) ∧ u1.heap[G14]? = some (.cells #[.int .u64 (D : Int), .int .u64 (E : Int), .int .u64 (F : Int), .string ⟨#[]⟩, .string ⟨#[]⟩] 24 (0, 0)) ∧ u1.heap[G15]? = some (.cells #[.int .u64 (A : Int), .int .u64 ((B : Int) + 1), .int .u64 0, .string ⟨#[]⟩, .string ⟨#[]⟩] 24 (0, 0)) from ⟨blk_below HSe.out.1 hb, blk_below HSe.out.2.1 hb, blk_below HSe.out.2.2 hb⟩)
  have HC1 := Lib.hid (HBe.out.trans (hb.mono HBe.out.size))
  clear hb HSe HBe
  refine ⟨_, rfl, ?_⟩
  clear hHeld
  refine hK.out _ _ (HU1.out) (fun hHeld => ?_)
  clear hK K
  refine norm_ (a' := ?_) ?_ ?_
  rotate_left
  · show Act.put _ (some 46) _ = _
    go_frame
    rfl
  refine pure_ (i := 2) (N := some 47) (v := ?_) (a' := ?_) #[true, true, true, true, true, true, false, false, false, false, false, false, false, false, false, false, false, false, false, false, false, false, false, false, false, false, false, false, false, false, false, false, false, false, false, false, false, false, false, false, false] rfl rfl (by kernel_rfl) (fun _ _ _ h => h) (Or.inl ⟨by rfl, ?_⟩) ?_ ?_
  rotate_left; (intro w'; go_simp; rw [if_neg (Nat.not_lt.2 c3)])
  rotate_left; (go_frame; rfl)
  refine one_ (i := 6) (N := some 51) #[true, true, true, true, true, true, true, false, false, false, false, false, false, false, false, false, false, false, false, false, false, false, false, false, false, false, false, false, false, false, false, false, false, false, false, false, false, false, false, false, false] rfl rfl (by kernel_rfl) (by decide) (fun K hK => ?_)
  refine goes_ Tryd.func23 (by kernel_rfl) rfl #[.string (⟨#[126]⟩ ++ T3), .agg #[.int .u64 (D : Int), .int .u64 (E : Int), .int .u64 (F : Int), .string ⟨#[]⟩, .string ⟨#[]⟩], .agg #[.int .u64 (A : Int), .int .u64 (B : Int), .int .u64 (C : Int), .string ⟨#[]⟩, .string ⟨#[]⟩], .agg #[.int .u64 (A : Int), .int .u64 ((B : Int) + 1), .int .u64 0, .string ⟨#[]⟩, .string ⟨#[]⟩]] (by rfl) rfl rfl (by (try simp only [List.map_toArray, List.map_cons, List.map_nil]); first | done | rfl) ?_
  refine (HR3.out u1 HC1.out).mono ?_
  rintro e u2 ⟨rfl, hb⟩
  have HU2 := Lib.hid (show u2.heap[G13]? = some (.cells #[.int .u64 (A : Int), .int .u64 (B : Int), .int .u64 (C : Int), .string ⟨#[]⟩, .string ⟨#[]⟩] 24 (0, 0)) ∧ u2.heap[G14]? = some (.cells #[.int .u64 (D : Int), .int .u64 (E : Int), .int .u64 (F : Int), .string ⟨#[]⟩, .string ⟨#[]⟩] 24 (0, 0)) ∧ u2.heap[G15]? = some (.cells #[.int .u64 (A : Int), .int .u64 ((B : Int) + 1), .int .u64 0, .string ⟨#[]⟩, .string ⟨#[]⟩] 24 (0, 0)) from ⟨blk_below HU1.out.1 hb, blk_below HU1.out.2.1 hb, blk_below HU1.out.2.2 hb⟩)
  have HC2 := Lib.hid (HC1.out.trans (hb.mono HC1.out.size))
  clear hb HU1 HC1
  refine ⟨_, rfl, ?_⟩
  clear hHeld
  refine hK.out _ _ (HU2.out) (fun hHeld => ?_)
  clear hK K
  refine norm_ (a' := ?_) ?_ ?_
  rotate_left
  · show Act.put _ (some 51) _ = _
    go_frame
    rfl
  refine pure_ (i := 7) (N := some 52) (v := ?_) (a' := ?_) #[true, true, true, true, true, true, true, true, false, false, false, false, false, false, false, false, false, false, false, false, false, false, false, false, false, false, false, false, false, false, false, false, false, false, false, false, false, false, false, false, false] rfl rfl (by kernel_rfl) (fun _ _ _ h => h) (Or.inl ⟨by rfl, ?_⟩) ?_ ?_
  rotate_left; (intro w'; go_simp; with_reducible rfl)
  rotate_left; (go_frame; rfl)
  refine pure_ (i := 8) (N := some 53) (v := ?_) (a' := ?_) #[true, true, true, true, true, true, true, true, true, false, false, false, false, false, false, false, false, false, false, false, false, false, false, false, false, false, false, false, false, false, false, false, false, false, false, false, false, false, false, false, false] rfl rfl (by kernel_rfl) (fun _ _ _ h => h) (Or.inl ⟨by rfl, ?_⟩) ?_ ?_
  rotate_left; (intro w'; go_simp; with_reducible rfl)
  rotate_left; (go_frame; rfl)
  refine pure_ (i := 9) (N := some 54) (v := ?_) (a' := ?_) #[true, true, true, true, true, true, true, true, true, true, false, false, false, false, false, false, false, false, false, false, false, false, false, false, false, false, false, false, false, false, false, false, false, false, false, false, false, false, false, false, false] rfl rfl (by kernel_rfl) (fun _ _ _ h => h) (Or.inl ⟨by rfl, ?_⟩) ?_ ?_
  rotate_left; (intro w'; go_simp; with_reducible rfl)
  rotate_left; (go_frame; rfl)
  refine pure_ (i := 10) (N := some 55) (v := ?_) (a' := ?_) #[true, true, true, true, true, true, true, true, true, true, true, false, false, false, false, false, false, false, false, false, false, false, false, false, false, false, false, false, false, false, false, false, false, false, false, false, false, false, false, false, false] rfl rfl (by kernel_rfl) (fun _ _ _ h => h) (Or.inl ⟨by rfl, ?_⟩) ?_ ?_
  rotate_left; (intro w'; go_simp; with_reducible rfl)
  rotate_left; (go_frame; rfl)
  refine pure_ (i := 11) (N := some 56) (v := ?_) (a' := ?_) #[true, true, true, true, true, true, true, true, true, true, true, true, false, false, false, false, false, false, false, false, false, false, false, false, false, false, false, false, false, false, false, false, false, false, false, false, false, false, false, false, false] rfl rfl (by kernel_rfl) (fun _ _ _ h => h) (Or.inl ⟨by rfl, ?_⟩) ?_ ?_
  rotate_left; (intro w'; go_simp; with_reducible rfl)
  rotate_left; (go_frame; rfl)
  refine pure_ (i := 12) (N := some 57) (v := ?_) (a' := ?_) #[true, true, true, true, true, true, true, true, true, true, true, true, true, false, false, false, false, false, false, false, false, false, false, false, false, false, false, false, false, false, false, false, false, false, false, false, false, false, false, false, false] rfl rfl (by kernel_rfl) (fun _ _ _ h => h) (Or.inl ⟨by rfl, ?_⟩) ?_ ?_
  rotate_left; (intro w'; go_simp; rw [if_pos (by omega)])
  rotate_left; (go_frame; rfl)
  refine pure_ (i := 13) (N := some 58) (v := ?_) (a' := ?_) #[true, true, true, true, true, true, true, true, true, true, true, true, true, true, false, false, false, false, false, false, false, false, false, false, false, false, false, false, false, false, false, false, false, false, false, false, false, false, false, false, false] rfl rfl (by kernel_rfl) (fun _ _ _ h => h) (Or.inl ⟨by rfl, ?_⟩) ?_ ?_
  rotate_left; (intro w'; go_simp; rw [if_neg (by omega)])
  rotate_left; (go_frame; rfl)
  refine take_ (i := 14) (N := some 59) (v := ?_) (a' := ?_) #[true, true, true, true, true, true, true, true, true, true, true, true, true, true, true, false, false, false, false, false, false, false, false, false, false, false, false, false, false, false, false, false, false, false, false, false, false, false, false, false, false] rfl rfl (by kernel_rfl) (fun _ _ _ h => h) (Or.inl ⟨by rfl, ?_⟩) hHeld ?_ ?_
  rotate_left
  · intro w' hS
    obtain ⟨_, hS, _⟩ := hS
    have y0 := blk_cell hS 0
    have y1 := blk_cell hS 1
    have y2 := blk_cell hS 2
    have y3 := blk_cell hS 3
    have y4 := blk_cell hS 4
    simp only [List.getElem?_toArray, List.getElem?_cons_zero, List.getElem?_cons_succ] at y0 y1 y2 y3 y4
    clear hS
    go_simp
    with_reducible rfl
  rotate_left; (go_frame; rfl)
  refine pure_ (i := 15) (N := some 60) (v := ?_) (a' := ?_) #[true, true, true, true, true, true, true, true, true, true, true, true, true, true, true, true, false, false, false, false, false, false, false, false, false, false, false, false, false, false, false, false, false, false, false, false, false, false, false, false, false] rfl rfl (by kernel_rfl) (fun _ _ _ h => h) (Or.inl ⟨by rfl, ?_⟩) ?_ ?_
  rotate_left; (intro w'; go_simp; with_reducible rfl)
  rotate_left; (go_frame; rfl)
  refine take_ (i := 16) (N := some 61) (v := ?_) (a' := ?_) #[true, true, true, true, true, true, true, true, true, true, true, true, true, true, true, true, true, false, false, false, false, false, false, false, false, false, false, false, false, false, false, false, false, false, false, false, false, false, false, false, false] rfl rfl (by kernel_rfl) (fun _ _ _ h => h) (Or.inl ⟨by rfl, ?_⟩) hHeld ?_ ?_
  rotate_left
  · intro w' hS
    obtain ⟨hS, _, _⟩ := hS
    have y0 := blk_cell hS 0
    have y1 := blk_cell hS 1
    have y2 := blk_cell hS 2
    have y3 := blk_cell hS 3
    have y4 := blk_cell hS 4
    simp only [List.getElem?_toArray, List.getElem?_cons_zero, List.getElem?_cons_succ] at y0 y1 y2 y3 y4
    clear hS
    go_simp
    with_reducible rfl
  rotate_left; (go_frame; rfl)
  refine pure_ (i := 17) (N := some 62) (v := ?_) (a' := ?_) #[true, true, true, true, true, true, true, true, true, true, true, true, true, true, true, true, true, true, false, false, false, false, false, false, false, false, false, false, false, false, false, false, false, false, false, false, false, false, false, false, false] rfl rfl (by kernel_rfl) (fun _ _ _ h => h) (Or.inl ⟨by rfl, ?_⟩) ?_ ?_
  rotate_left; (intro w'; go_simp; with_reducible rfl)
  rotate_left; (go_frame; rfl)
  refine take_ (i := 18) (N := some 63) (v := ?_) (a' := ?_) #[true, true, true, true, true, true, true, true, true, true, true, true, true, true, true, true, true, true, true, false, false, false, false, false, false, false, false, false, false, false, false, false, false, false, false, false, false, false, false, false, false] rfl rfl (by kernel_rfl) (fun _ _ _ h => h) (Or.inl ⟨by rfl, ?_⟩) hHeld ?_ ?_
  rotate_left
  · intro w' hS
    obtain ⟨hS, _, _⟩ := hS
    have y0 := blk_cell hS 0
    have y1 := blk_cell hS 1
    have y2 := blk_cell hS 2
    have y3 := blk_cell hS 3
    have y4 := blk_cell hS 4
    simp only [List.getElem?_toArray, List.getElem?_cons_zero, List.getElem?_cons_succ] at y0 y1 y2 y3 y4
    clear hS
    go_simp
    with_reducible rfl
  rotate_left; (go_frame; rfl)
  refine pure_ (i := 19) (N := some 64) (v := ?_) (a' := ?_) #[true, true, true, true, true, true, true, true, true, true, true, true, true, true, true, true, true, true, true, true, false, false, false, false, false, false, false, false, false, false, false, false, false, false, false, false, false, false, false, false, false] rfl rfl (by kernel_rfl) (fun _ _ _ h => h) (Or.inl ⟨by rfl, ?_⟩) ?_ ?_
  rotate_left; (intro w'; go_simp; with_reducible rfl)
  rotate_left; (go_frame; rfl)
  refine take_ (i := 20) (N := some 65) (v := ?_) (a' := ?_) #[true, true, true, true, true, true, true, true, true, true, true, true, true, true, true, true, true, true, true, true, true, false, false, false, false, false, false, false, false, false, false, false, false, false, false, false, false, false, false, false, false] rfl rfl (by kernel_rfl) (fun _ _ _ h => h) (Or.inl ⟨by rfl, ?_⟩) hHeld ?_ ?_
  rotate_left
  · intro w' hS
    obtain ⟨_, _, hS⟩ := hS
    have y0 := blk_cell hS 0
    have y1 := blk_cell hS 1
    have y2 := blk_cell hS 2
    have y3 := blk_cell hS 3
    have y4 := blk_cell hS 4
    simp only [List.getElem?_toArray, List.getElem?_cons_zero, List.getElem?_cons_succ] at y0 y1 y2 y3 y4
    clear hS
    go_simp
    with_reducible rfl
  rotate_left; (go_frame; rfl)
  refine one_ (i := 21) (N := some 66) #[true, true, true, true, true, true, true, true, true, true, true, true, true, true, true, true, true, true, true, true, true, true, false, false, false, false, false, false, false, false, false, false, false, false, false, false, false, false, false, false, false] rfl rfl (by kernel_rfl) (by decide) (fun K hK => ?_)
  refine goes_ Tryd.func23 (by kernel_rfl) rfl #[.string (⟨#[126]⟩ ++ T2.extract 0 n2), .agg #[.int .u64 (D : Int), .int .u64 (E : Int), .int .u64 (F : Int), .string ⟨#[]⟩, .string ⟨#[]⟩], .agg #[.int .u64 (A : Int), .int .u64 (B : Int), .int .u64 0, .string ⟨#[]⟩, .string ⟨#[]⟩], .agg #[.int .u64 (A : Int), .int .u64 ((B : Int) + 1), .int .u64 0, .string ⟨#[]⟩, .string ⟨#[]⟩]] (by rfl) rfl rfl (by (try simp only [List.map_toArray, List.map_cons, List.map_nil]); first | done | rfl) ?_
  refine (HR2.out u2 HC2.out).mono ?_
  rintro e u3 ⟨rfl, hb⟩
  have HU3 := Lib.hid (show u3.heap[G13]? = some (.cells #[.int .u64 (A : Int), .int .u64 (B : Int), .int .u64 (C : Int), .string ⟨#[]⟩, .string ⟨#[]⟩] 24 (0, 0)) ∧ u3.heap[G14]? = some (.cells #[.int .u64 (D : Int), .int .u64 (E : Int), .int .u64 (F : Int), .string ⟨#[]⟩, .string ⟨#[]⟩] 24 (0, 0)) ∧ u3.heap[G15]? = some (.cells #[.int .u64 (A : Int), .int .u64 ((B : Int) + 1), .int .u64 0, .string ⟨#[]⟩, .string ⟨#[]⟩] 24 (0, 0)) from ⟨blk_below HU2.out.1 hb, blk_below HU2.out.2.1 hb, blk_below HU2.out.2.2 hb⟩)
  have HC3 := Lib.hid (HC2.out.trans (hb.mono HC2.out.size))
  clear hb HU2 HC2
  refine ⟨_, rfl, ?_⟩
  clear hHeld
  refine hK.out _ _ (HU3.out) (fun hHeld => ?_)
  clear hK K
  refine norm_ (a' := ?_) ?_ ?_
  rotate_left
  · show Act.put _ (some 66) _ = _
    go_frame
    rfl
  refine pure_ (i := 22) (N := some 67) (v := ?_) (a' := ?_) #[true, true, true, true, true, true, true, true, true, true, true, true, true, true, true, true, true, true, true, true, true, true, true, false, false, false, false, false, false, false, false, false, false, false, false, false, false, false, false, false, false] rfl rfl (by kernel_rfl) (fun _ _ _ h => h) (Or.inl ⟨by rfl, ?_⟩) ?_ ?_
  rotate_left; (intro w'; go_simp; with_reducible rfl)
  rotate_left; (go_frame; rfl)
  refine pure_ (i := 23) (N := some 68) (v := ?_) (a' := ?_) #[true, true, true, true, true, true, true, true, true, true, true, true, true, true, true, true, true, true, true, true, true, true, true, true, false, false, false, false, false, false, false, false, false, false, false, false, false, false, false, false, false] rfl rfl (by kernel_rfl) (fun _ _ _ h => h) (Or.inl ⟨by rfl, ?_⟩) ?_ ?_
  rotate_left; (intro w'; go_simp; with_reducible rfl)
  rotate_left; (go_frame; rfl)
  refine pure_ (i := 24) (N := some 69) (v := ?_) (a' := ?_) #[true, true, true, true, true, true, true, true, true, true, true, true, true, true, true, true, true, true, true, true, true, true, true, true, true, false, false, false, false, false, false, false, false, false, false, false, false, false, false, false, false] rfl rfl (by kernel_rfl) (fun _ _ _ h => h) (Or.inl ⟨by rfl, ?_⟩) ?_ ?_
  rotate_left; (intro w'; go_simp; with_reducible rfl)
  rotate_left; (go_frame; rfl)
  refine pure_ (i := 25) (N := some 70) (v := ?_) (a' := ?_) #[true, true, true, true, true, true, true, true, true, true, true, true, true, true, true, true, true, true, true, true, true, true, true, true, true, true, false, false, false, false, false, false, false, false, false, false, false, false, false, false, false] rfl rfl (by kernel_rfl) (fun _ _ _ h => h) (Or.inl ⟨by rfl, ?_⟩) ?_ ?_
  rotate_left; (intro w'; go_simp; with_reducible rfl)
  rotate_left; (go_frame; rfl)
  refine pure_ (i := 26) (N := some 71) (v := ?_) (a' := ?_) #[true, true, true, true, true, true, true, true, true, true, true, true, true, true, true, true, true, true, true, true, true, true, true, true, true, true, true, false, false, false, false, false, false, false, false, false, false, false, false, false, false] rfl rfl (by kernel_rfl) (fun _ _ _ h => h) (Or.inl ⟨by rfl, ?_⟩) ?_ ?_
  rotate_left; (intro w'; go_simp; with_reducible rfl)
  rotate_left; (go_frame; rfl)
  refine pure_ (i := 27) (N := some 72) (v := ?_) (a' := ?_) #[true, true, true, true, true, true, true, true, true, true, true, true, true, true, true, true, true, true, true, true, true, true, true, true, true, true, true, true, false, false, false, false, false, false, false, false, false, false, false, false, false] rfl rfl (by kernel_rfl) (fun _ _ _ h => h) (Or.inl ⟨by rfl, ?_⟩) ?_ ?_
  rotate_left; (intro w'; go_simp; with_reducible rfl)
  rotate_left; (go_frame; rfl)
  refine pure_ (i := 28) (N := some 73) (v := ?_) (a' := ?_) #[true, true, true, true, true, true, true, true, true, true, true, true, true, true, true, true, true, true, true, true, true, true, true, true, true, true, true, true, true, false, false, false, false, false, false, false, false, false, false, false, false] rfl rfl (by kernel_rfl) (fun _ _ _ h => h) (Or.inl ⟨by rfl, ?_⟩) ?_ ?_
  rotate_left; (intro w'; go_simp; rw [if_pos (by omega)])
  rotate_left; (go_frame; rfl)
  refine pure_ (i := 29) (N := some 74) (v := ?_) (a' := ?_) #[true, true, true, true, true, true, true, true, true, true, true, true, true, true, true, true, true, true, true, true, true, true, true, true, true, true, true, true, true, true, false, false, false, false, false, false, false, false, false, false, false] rfl rfl (by kernel_rfl) (fun _ _ _ h => h) (Or.inl ⟨by rfl, ?_⟩) ?_ ?_
  rotate_left; (intro w'; go_simp; rw [if_neg (by omega)])
  rotate_left; (go_frame; rfl)
  refine take_ (i := 30) (N := some 75) (v := ?_) (a' := ?_) #[true, true, true, true, true, true, true, true, true, true, true, true, true, true, true, true, true, true, true, true, true, true, true, true, true, true, true, true, true, true, true, false, false, false, false, false, false, false, false, false, false] rfl rfl (by kernel_rfl) (fun _ _ _ h => h) (Or.inl ⟨by rfl, ?_⟩) hHeld ?_ ?_
  rotate_left
  · intro w' hS
    obtain ⟨_, hS, _⟩ := hS
    have y0 := blk_cell hS 0
    have y1 := blk_cell hS 1
    have y2 := blk_cell hS 2
    have y3 := blk_cell hS 3
    have y4 := blk_cell hS 4
    simp only [List.getElem?_toArray, List.getElem?_cons_zero, List.getElem?_cons_succ] at y0 y1 y2 y3 y4
    clear hS
    go_simp
    with_reducible rfl
  rotate_left; (go_frame; rfl)
  refine pure_ (i := 31) (N := some 76) (v := ?_) (a' := ?_) #[true, true, true, true, true, true, true, true, true, true, true, true, true, true, true, true, true, true, true, true, true, true, true, true, true, true, true, true, true, true, true, true, false, false, false, false, false, false, false, false, false] rfl rfl (by kernel_rfl) (fun _ _ _ h => h) (Or.inl ⟨by rfl, ?_⟩) ?_ ?_
  rotate_left; (intro w'; go_simp; with_reducible rfl)
  rotate_left; (go_frame; rfl)
  refine take_ (i := 32) (N := some 77) (v := ?_) (a' := ?_) #[true, true, true, true, true, true, true, true, true, true, true, true, true, true, true, true, true, true, true, true, true, true, true, true, true, true, true, true, true, true, true, true, true, false, false, false, false, false, false, false, false] rfl rfl (by kernel_rfl) (fun _ _ _ h => h) (Or.inl ⟨by rfl, ?_⟩) hHeld ?_ ?_
  rotate_left
  · intro w' hS
    obtain ⟨hS, _, _⟩ := hS
    have y0 := blk_cell hS 0
    have y1 := blk_cell hS 1
    have y2 := blk_cell hS 2
    have y3 := blk_cell hS 3
    have y4 := blk_cell hS 4
    simp only [List.getElem?_toArray, List.getElem?_cons_zero, List.getElem?_cons_succ] at y0 y1 y2 y3 y4
    clear hS
    go_simp
    with_reducible rfl
  rotate_left; (go_frame; rfl)
  refine pure_ (i := 33) (N := some 78) (v := ?_) (a' := ?_) #[true, true, true, true, true, true, true, true, true, true, true, true, true, true, true, true, true, true, true, true, true, true, true, true, true, true, true, true, true, true, true, true, true, true, false, false, false, false, false, false, false] rfl rfl (by kernel_rfl) (fun _ _ _ h => h) (Or.inl ⟨by rfl, ?_⟩) ?_ ?_
  rotate_left; (intro w'; go_simp; with_reducible rfl)
  rotate_left; (go_frame; rfl)
  refine pure_ (i := 34) (N := some 79) (v := ?_) (a' := ?_) #[true, true, true, true, true, true, true, true, true, true, true, true, true, true, true, true, true, true, true, true, true, true, true, true, true, true, true, true, true, true, true, true, true, true, true, false, false, false, false, false, false] rfl rfl (by kernel_rfl) (fun _ _ _ h => h) (Or.inl ⟨by rfl, ?_⟩) ?_ ?_
  rotate_left; (intro w'; go_simp; with_reducible rfl)
  rotate_left; (go_frame; rfl)
  refine take_ (i := 35) (N := some 80) (v := ?_) (a' := ?_) #[true, true, true, true, true, true, true, true, true, true, true, true, true, true, true, true, true, true, true, true, true, true, true, true, true, true, true, true, true, true, true, true, true, true, true, true, false, false, false, false, false] rfl rfl (by kernel_rfl) (fun _ _ _ h => h) (Or.inl ⟨by rfl, ?_⟩) hHeld ?_ ?_
  rotate_left
  · intro w' hS
    obtain ⟨hS, _, _⟩ := hS
    have y0 := blk_cell hS 0
    have y1 := blk_cell hS 1
    have y2 := blk_cell hS 2
    have y3 := blk_cell hS 3
    have y4 := blk_cell hS 4
    simp only [List.getElem?_toArray, List.getElem?_cons_zero, List.getElem?_cons_succ] at y0 y1 y2 y3 y4
    clear hS
    go_simp
    with_reducible rfl
  rotate_left; (go_frame; rfl)
  refine pure_ (i := 36) (N := some 81) (v := ?_) (a' := ?_) #[true, true, true, true, true, true, true, true, true, true, true, true, true, true, true, true, true, true, true, true, true, true, true, true, true, true, true, true, true, true, true, true, true, true, true, true, true, false, false, false, false] rfl rfl (by kernel_rfl) (fun _ _ _ h => h) (Or.inl ⟨by rfl, ?_⟩) ?_ ?_
  rotate_left; (intro w'; go_simp; with_reducible rfl)
  rotate_left; (go_frame; rfl)
  refine pure_ (i := 37) (N := some 82) (v := ?_) (a' := ?_) #[true, true, true, true, true, true, true, true, true, true, true, true, true, true, true, true, true, true, true, true, true, true, true, true, true, true, true, true, true, true, true, true, true, true, true, true, true, true, false, false, false] rfl rfl (by kernel_rfl) (fun _ _ _ h => h) (Or.inl ⟨by rfl, ?_⟩) ?_ ?_
  rotate_left; (intro w'; go_simp; with_reducible rfl)
  rotate_left; (go_frame; rfl)
  refine one_ (i := 38) (N := some 83) #[true, true, true, true, true, true, true, true, true, true, true, true, true, true, true, true, true, true, true, true, true, true, true, true, true, true, true, true, true, true, true, true, true, true, true, true, true, true, true, false, false] rfl rfl (by kernel_rfl) (by decide) (fun K hK => ?_)
  refine goes_ Tryd.func23 (by kernel_rfl) rfl #[.string (⟨#[126]⟩ ++ T1.extract 0 n1), .agg #[.int .u64 (D : Int), .int .u64 (E : Int), .int .u64 (F : Int), .string ⟨#[]⟩, .string ⟨#[]⟩], .agg #[.int .u64 (A : Int), .int .u64 0, .int .u64 0, .string ⟨#[]⟩, .string ⟨#[]⟩], .agg #[.int .u64 ((A : Int) + 1), .int .u64 0, .int .u64 0, .string ⟨#[]⟩, .string ⟨#[]⟩]] (by rfl) rfl rfl (by (try simp only [List.map_toArray, List.map_cons, List.map_nil]); first | done | rfl) ?_
  refine (HR1.out u3 HC3.out).mono ?_
  rintro e u4 ⟨rfl, hb⟩
  have HU4 := Lib.hid (show u4.heap[G13]? = some (.cells #[.int .u64 (A : Int), .int .u64 (B : Int), .int .u64 (C : Int), .string ⟨#[]⟩, .string ⟨#[]⟩] 24 (0, 0)) ∧ u4.heap[G14]? = some (.cells #[.int .u64 (D : Int), .int .u64 (E : Int), .int .u64 (F : Int), .string ⟨#[]⟩, .string ⟨#[]⟩] 24 (0, 0)) ∧ u4.heap[G15]? = some (.cells #[.int .u64 (A : Int), .int .u64 ((B : Int) + 1), .int .u64 0, .string ⟨#[]⟩, .string ⟨#[]⟩] 24 (0, 0)) from ⟨blk_below HU3.out.1 hb, blk_below HU3.out.2.1 hb, blk_below HU3.out.2.2 hb⟩)
  have HC4 := Lib.hid (HC3.out.trans (hb.mono HC3.out.size))
  clear hb HU3 HC3
  refine ⟨_, rfl, ?_⟩
  clear hHeld
  refine hK.out _ _ (HU4.out) (fun hHeld => ?_)
  clear hK K
  refine norm_ (a' := ?_) ?_ ?_
  rotate_left
  · show Act.put _ (some 83) _ = _
    go_frame
    rfl
  refine pure_ (i := 39) (N := some 84) (v := ?_) (a' := ?_) #[true, true, true, true, true, true, true, true, true, true, true, true, true, true, true, true, true, true, true, true, true, true, true, true, true, true, true, true, true, true, true, true, true, true, true, true, true, true, true, true, false] rfl rfl (by kernel_rfl) (fun _ _ _ h => h) (Or.inl ⟨by rfl, ?_⟩) ?_ ?_
  rotate_left; (intro w'; go_simp; with_reducible rfl)
  rotate_left; (go_frame; rfl)
  refine pure_ (i := 40) (N := some 12) (v := ?_) (a' := ?_) #[true, true, true, true, true, true, true, true, true, true, true, true, true, true, true, true, true, true, true, true, true, true, true, true, true, true, true, true, true, true, true, true, true, true, true, true, true, true, true, true, true] rfl rfl (by kernel_rfl) (fun _ _ _ h => h) (Or.inl ⟨by rfl, ?_⟩) ?_ ?_
  rotate_left; (intro w'; go_simp; with_reducible rfl)
  rotate_left; (go_frame; rfl)
  refine done_ (by kernel_rfl) ?_
  clear hHeld
  go_wp2
  go_ret
  exact ⟨rfl, HC4.out⟩
end Go.Proofs.YtlhijjfbcgconaaDoor.P

