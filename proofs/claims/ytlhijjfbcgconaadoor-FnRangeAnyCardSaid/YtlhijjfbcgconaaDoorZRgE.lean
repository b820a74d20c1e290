/- Texts joined: Rg26, Rg36, Rg33, Rg34. -/
import Derived.Test.YtlhijjfbcgconaaDoorZXw
import Derived.Test.YtlhijjfbcgconaaDoorZPx0
import Derived.Lib.Hide
import Derived.Test.YtlhijjfbcgconaaDoorZRgD
import Derived.Test.YtlhijjfbcgconaaDoorZPx23

/- Ranges: the walk of the law FnRangeTilde; what it calls is told by hypotheses. -/
set_option linter.unusedVariables false
set_option linter.unusedSimpArgs false
namespace Go.Proofs.YtlhijjfbcgconaaDoor.P
open Go.RowKit Go.Proofs.YtlhijjfbcgconaaDoorW.PrintWords Go.Proofs.YtlhijjfbcgconaaDoorW.PrintLast Go.Proofs.YtlhijjfbcgconaaDoorW.PrintMore

theorem num16 (a : Int) (h : (Lit.int IntKind.u16 a).wf = true) : ∃ A : Nat, A < 1000 ∧ IntKind.u64.wrap (Int.tmod a 1000) = (A : Int) ∧ Int.tmod a 1000 = (A : Int) := by
  simp only [Lit.wf, IntKind.min, IntKind.max, IntKind.signed, IntKind.bits, Bool.and_eq_true, decide_eq_true_eq] at h
  obtain ⟨h0, h1⟩ : 0 ≤ a ∧ a ≤ 65535 := by
    simp at h
    omega
  have h2 : Int.tmod a 1000 = a % 1000 := Int.tmod_eq_emod_of_nonneg h0
  refine ⟨(a % 1000).toNat, by omega, ?_, by rw [h2]; omega⟩
  rw [h2]
  have : IntKind.u64.wrap (a % 1000) = a % 1000 := by
    simp only [IntKind.wrap, IntKind.signed, IntKind.bits]
    simp
    omega
  rw [this]
  omega
end Go.Proofs.YtlhijjfbcgconaaDoor.P


/- Ranges: the walk of the law FnRangeAny; what it calls is told by hypotheses. -/
set_option linter.unusedVariables false
set_option linter.unusedSimpArgs false
namespace Go.Proofs.YtlhijjfbcgconaaDoor.P
open Go.RowKit Go.Proofs.YtlhijjfbcgconaaDoorW.PrintWords Go.Proofs.YtlhijjfbcgconaaDoorW.PrintLast Go.Proofs.YtlhijjfbcgconaaDoorW.PrintMore

set_option maxHeartbeats 6400000 in
set_option maxRecDepth 100000 in
theorem any_walk (i0 i1 i2 i3 i4 i5 : Int) {A B D E F : Nat} {n1 n2 : Nat} {T1 T2 X : ByteArray} (hA : A < 1000) (hB : B < 1000) (eA : IntKind.u64.wrap (Int.tmod i0 1000) = (A : Int)) (eB : IntKind.u64.wrap (Int.tmod i1 1000) = (B : Int)) (fA : Int.tmod i0 1000 = (A : Int)) (fB : Int.tmod i1 1000 = (B : Int)) (z1 : T1.size = n1 + 3) (z2 : T2.size = n2 + 1) (y1 : T1.size ≤ 100) (y2 : T2.size ≤ 100) (y3 : X.size ≤ 100)
    (hv : ∀ W, Calls Tryd.prog 21 #[.int .u16 i2, .int .u16 i3, .int .u16 i4] W fun e w' => e = .returned (.agg #[.int .u64 (D : Int), .int .u64 (E : Int), .int .u64 (F : Int), .string ⟨#[]⟩, .string ⟨#[]⟩]) ∧ Below W.heap.size W w')
    (hx : ∀ W, Calls Tryd.prog 22 #[.int .u8 i5] W fun e w' => e = .returned (.string X) ∧ Below W.heap.size W w')
    (ht1 : ∀ W, Calls Tryd.prog 20 #[.agg #[.int .u64 (A : Int), .int .u64 0, .int .u64 0, .string ⟨#[]⟩, .string ⟨#[]⟩]] W fun e w' => e = .returned (.string T1) ∧ Below W.heap.size W w')
    (ht2 : ∀ W, Calls Tryd.prog 20 #[.agg #[.int .u64 (A : Int), .int .u64 (B : Int), .int .u64 0, .string ⟨#[]⟩, .string ⟨#[]⟩]] W fun e w' => e = .returned (.string T2) ∧ Below W.heap.size W w')
    (w : World)
    (hr2 : ∀ W, Below w.heap.size w W → Calls Tryd.prog 23 #[.string (T2.extract 0 n2 ++ X), .agg #[.int .u64 (D : Int), .int .u64 (E : Int), .int .u64 (F : Int), .string ⟨#[]⟩, .string ⟨#[]⟩], .agg #[.int .u64 (A : Int), .int .u64 (B : Int), .int .u64 0, .string ⟨#[]⟩, .string ⟨#[]⟩], .agg #[.int .u64 (A : Int), .int .u64 ((B : Int) + 1), .int .u64 0, .string ⟨#[]⟩, .string ⟨#[]⟩]] W fun e w' => e = .returned (.bool true) ∧ Below W.heap.size W w')
    (hr1 : ∀ W, Below w.heap.size w W → Calls Tryd.prog 23 #[.string (T1.extract 0 n1 ++ X), .agg #[.int .u64 (D : Int), .int .u64 (E : Int), .int .u64 (F : Int), .string ⟨#[]⟩, .string ⟨#[]⟩], .agg #[.int .u64 (A : Int), .int .u64 0, .int .u64 0, .string ⟨#[]⟩, .string ⟨#[]⟩], .agg #[.int .u64 ((A : Int) + 1), .int .u64 0, .int .u64 0, .string ⟨#[]⟩, .string ⟨#[]⟩]] W fun e w' => e = .returned (.bool true) ∧ Below W.heap.size W w')
    (hr0 : ∀ W, Below w.heap.size w W → Calls Tryd.prog 23 #[.string (⟨#[42]⟩), .agg #[.int .u64 (D : Int), .int .u64 (E : Int), .int .u64 (F : Int), .string ⟨#[]⟩, .string ⟨#[]⟩], .agg #[.int .u64 0, .int .u64 0, .int .u64 0, .string ⟨#[]⟩, .string ⟨#[]⟩], .agg #[.int .u64 0, .int .u64 0, .int .u64 0, .string ⟨#[]⟩, .string ⟨#[]⟩]] W fun e w' => e = .returned (.bool true) ∧ Below W.heap.size W w') :
    Calls Tryd.prog 7 #[.int .u16 i0, .int .u16 i1, .int .u16 i2, .int .u16 i3, .int .u16 i4, .int .u8 i5] w fun e w' => e = .returned (.bool true) ∧ Below w.heap.size w w' := by
  have HV := Lib.hid hv
  have HX := Lib.hid hx
  have HT1 := Lib.hid ht1
  have HT2 := Lib.hid ht2
  have HR2 := Lib.hid hr2
  have HR1 := Lib.hid hr1
  have HR0 := Lib.hid hr0
  have HB0 := Lib.hid (Below.refl w.heap.size w)
  have x2 : IntKind.i64.wrap (n2 : Int) = (n2 : Int) := by
    simp only [IntKind.wrap, IntKind.signed, IntKind.bits]
    simp
    omega
  have x1 : IntKind.i64.wrap (n1 : Int) = (n1 : Int) := by
    simp only [IntKind.wrap, IntKind.signed, IntKind.bits]
    simp
    omega
  have q64 : IntKind.u64.wrap ((B : Int) + 1) = (B : Int) + 1 := by
    simp only [IntKind.wrap, IntKind.signed, IntKind.bits]
    simp
    omega
  have q64a : IntKind.u64.wrap ((A : Int) + 1) = (A : Int) + 1 := by
    simp only [IntKind.wrap, IntKind.signed, IntKind.bits]
    simp
    omega
  have q0 : IntKind.u64.wrap (A : Int) = (A : Int) := by rw [fA] at eA; exact eA
  have q1 : IntKind.u64.wrap (B : Int) = (B : Int) := by rw [fB] at eB; exact eB
  clear hv hx ht1 ht2 hr2 hr1 hr0
  go_enter Tryd.func7, Tryd.ntmps7
  go_wp2_with fail
  refine (HV.out _).mono ?_
  rintro e1 w1 ⟨rfl, hb⟩
  have HB1 := Lib.hid (HB0.out.trans (hb.mono HB0.out.size))
  clear hb HB0 HV
  go_wp2_with fail
  refine (HX.out _).mono ?_
  rintro e2 w2 ⟨rfl, hb⟩
  have HB2 := Lib.hid (HB1.out.trans (hb.mono HB1.out.size))
  clear hb HB1 HX
  go_upto_region 3 with fail
  have HB3 := Lib.hid (HB2.out.alloc HB2.out.size (.cells #[.int .u64 (D : Int), .int .u64 (E : Int), .int .u64 (F : Int), .string ⟨#[]⟩, .string ⟨#[]⟩] 24))
  have hS13 := heap_alloc_new w2 (.cells #[.int .u64 (D : Int), .int .u64 (E : Int), .int .u64 (F : Int), .string ⟨#[]⟩, .string ⟨#[]⟩] 24)
  have g13 := HB2.out.size
  clear HB2
  generalize w2.alloc (.cells #[.int .u64 (D : Int), .int .u64 (E : Int), .int .u64 (F : Int), .string ⟨#[]⟩, .string ⟨#[]⟩] 24) = w3 at *
  generalize w2.heap.size = G13 at *
  have HS13 := Lib.hid hS13
  clear hS13
  go_wp2_with fail
  refine (HT1.out _).mono ?_
  rintro e4 w4 ⟨rfl, hb⟩
  have HS4 := Lib.hid (show w4.heap[G13]? = some (.cells #[.int .u64 (D : Int), .int .u64 (E : Int), .int .u64 (F : Int), .string ⟨#[]⟩, .string ⟨#[]⟩] 24 (0, 0)) from blk_below HS13.out hb)
  have HB4 := Lib.hid (HB3.out.trans (hb.mono HB3.out.size))
  clear hb HB3 HS13 HT1
  go_wp2_with fail
  refine (HT2.out _).mono ?_
  rintro e5 w5 ⟨rfl, hb⟩
  have HS5 := Lib.hid (show w5.heap[G13]? = some (.cells #[.int .u64 (D : Int), .int .u64 (E : Int), .int .u64 (F : Int), .string ⟨#[]⟩, .string ⟨#[]⟩] 24 (0, 0)) from blk_below HS4.out hb)
  have HB5 := Lib.hid (HB4.out.trans (hb.mono HB4.out.size))
  clear hb HB4 HS4 HT2
  go_upto_region 4 with fail
  have HSe := Lib.hid (show w5.drew.heap[G13]? = some (.cells #[.int .u64 (D : Int), .int .u64 (E : Int), .int .u64 (F : Int), .string ⟨#[]⟩, .string ⟨#[]⟩] 24 (0, 0)) from HS5.out)
  have HBe := Lib.hid (show Below w.heap.size w w5.drew from HB5.out.drew)
  clear HS5 HB5
  refine start_ (n := 39) (ds := []) (S := fun w' => w'.heap[G13]? = some (.cells #[.int .u64 (D : Int), .int .u64 (E : Int), .int .u64 (F : Int), .string ⟨#[]⟩, .string ⟨#[]⟩] 24 (0, 0))) #[false, false, false, false, false, false, false, false, false, false, false, false, false, false, false, false, false, false, false, false, false, false, false, false, false, false, false, false, false, false, false, false, false, false, false, false, false, false, false] (by kernel_rfl) rfl rfl (HSe.out) (fun hHeld => ?_)
  generalize w5.drew = u0 at *
  refine take_ (i := 7) (N := some 45) (v := ?_) (a' := ?_) #[false, false, false, false, false, false, false, true, false, false, false, false, false, false, false, false, false, false, false, false, false, false, false, false, false, false, false, false, false, false, false, false, false, false, false, false, false, false, false] rfl rfl (by kernel_rfl) (fun _ _ _ h => h) (Or.inl ⟨by rfl, ?_⟩) hHeld ?_ ?_
  rotate_left
  · intro w' hS
    have y0 := blk_cell hS 0
    have y1 := blk_cell hS 1
    have y2 := blk_cell hS 2
    have y3 := blk_cell hS 3
    have y4 := blk_cell hS 4
    simp only [List.getElem?_toArray, List.getElem?_cons_zero, List.getElem?_cons_succ] at y0 y1 y2 y3 y4
    clear hS
    go_simp
    with_reducible rfl
  rotate_left; (go_frame; rfl)
  refine pure_ (i := 0) (N := some 38) (v := ?_) (a' := ?_) #[true, false, false, false, false, false, false, true, false, false, false, false, false, false, false, false, false, false, false, false, false, false, false, false, false, false, false, false, false, false, false, false, false, false, false, false, false, false, false] rfl rfl (by kernel_rfl) (fun _ _ _ h => h) (Or.inl ⟨by rfl, ?_⟩) ?_ ?_
  rotate_left; (intro w'; go_simp; with_reducible rfl)
  rotate_left; (go_frame; rfl)
  refine pure_ (i := 1) (N := some 39) (v := ?_) (a' := ?_) #[true, true, false, false, false, false, false, true, false, false, false, false, false, false, false, false, false, false, false, false, false, false, false, false, false, false, false, false, false, false, false, false, false, false, false, false, false, false, false] rfl rfl (by kernel_rfl) (fun _ _ _ h => h) (Or.inl ⟨by rfl, ?_⟩) ?_ ?_
  rotate_left; (intro w'; go_simp; with_reducible rfl)
  rotate_left; (go_frame; rfl)
  refine pure_ (i := 2) (N := some 40) (v := ?_) (a' := ?_) #[true, true, true, false, false, false, false, true, false, false, false, false, false, false, false, false, false, false, false, false, false, false, false, false, false, false, false, false, false, false, false, false, false, false, false, false, false, false, false] rfl rfl (by kernel_rfl) (fun _ _ _ h => h) (Or.inl ⟨by rfl, ?_⟩) ?_ ?_
  rotate_left; (intro w'; go_simp; with_reducible rfl)
  rotate_left; (go_frame; rfl)
  refine pure_ (i := 3) (N := some 41) (v := ?_) (a' := ?_) #[true, true, true, true, false, false, false, true, false, false, false, false, false, false, false, false, false, false, false, false, false, false, false, false, false, false, false, false, false, false, false, false, false, false, false, false, false, false, false] rfl rfl (by kernel_rfl) (fun _ _ _ h => h) (Or.inl ⟨by rfl, ?_⟩) ?_ ?_
  rotate_left; (intro w'; go_simp; with_reducible rfl)
  rotate_left; (go_frame; rfl)
  refine pure_ (i := 4) (N := some 42) (v := ?_) (a' := ?_) #[true, true, true, true, true, false, false, true, false, false, false, false, false, false, false, false, false, false, false, false, false, false, false, false, false, false, false, false, false, false, false, false, false, false, false, false, false, false, false] rfl rfl (by kernel_rfl) (fun _ _ _ h => h) (Or.inl ⟨by rfl, ?_⟩) ?_ ?_
  rotate_left; (intro w'; go_simp; rw [if_pos (by omega)])
  rotate_left; (go_frame; rfl)
  refine pure_ (i := 5) (N := some 43) (v := ?_) (a' := ?_) #[true, true, true, true, true, true, false, true, false, false, false, false, false, false, false, false, false, false, false, false, false, false, false, false, false, false, false, false, false, false, false, false, false, false, false, false, false, false, false] rfl rfl (by kernel_rfl) (fun _ _ _ h => h) (Or.inl ⟨by rfl, ?_⟩) ?_ ?_
  rotate_left; (intro w'; go_simp; with_reducible rfl)
  rotate_left; (go_frame; rfl)
  refine pure_ (i := 6) (N := some 44) (v := ?_) (a' := ?_) #[true, true, true, true, true, true, true, true, false, false, false, false, false, false, false, false, false, false, false, false, false, false, false, false, false, false, false, false, false, false, false, false, false, false, false, false, false, false, false] rfl rfl (by kernel_rfl) (fun _ _ _ h => h) (Or.inl ⟨by rfl, ?_⟩) ?_ ?_
  rotate_left; (intro w'; go_simp; rw [if_neg (by omega)])
  rotate_left; (go_frame; rfl)
  refine pure_ (i := 8) (N := some 46) (v := ?_) (a' := ?_) #[true, true, true, true, true, true, true, true, true, false, false, false, false, false, false, false, false, false, false, false, false, false, false, false, false, false, false, false, false, false, false, false, false, false, false, false, false, false, false] rfl rfl (by kernel_rfl) (fun _ _ _ h => h) (Or.inl ⟨by rfl, ?_⟩) ?_ ?_
  rotate_left; (intro w'; go_simp; with_reducible rfl)
  rotate_left; (go_frame; rfl)
  refine pure_ (i := 9) (N := some 47) (v := ?_) (a' := ?_) #[true, true, true, true, true, true, true, true, true, true, false, false, false, false, false, false, false, false, false, false, false, false, false, false, false, false, false, false, false, false, false, false, false, false, false, false, false, false, false] rfl rfl (by kernel_rfl) (fun _ _ _ h => h) (Or.inl ⟨by rfl, ?_⟩) ?_ ?_
  rotate_left; (intro w'; go_simp; with_reducible rfl)
  rotate_left; (go_frame; rfl)
  refine pure_ (i := 10) (N := some 48) (v := ?_) (a' := ?_) #[true, true, true, true, true, true, true, true, true, true, true, false, false, false, false, false, false, false, false, false, false, false, false, false, false, false, false, false, false, false, false, false, false, false, false, false, false, false, false] rfl rfl (by kernel_rfl) (fun _ _ _ h => h) (Or.inl ⟨by rfl, ?_⟩) ?_ ?_
  rotate_left; (intro w'; go_simp; with_reducible rfl)
  rotate_left; (go_frame; rfl)
  refine pure_ (i := 11) (N := some 49) (v := ?_) (a' := ?_) #[true, true, true, true, true, true, true, true, true, true, true, true, false, false, false, false, false, false, false, false, false, false, false, false, false, false, false, false, false, false, false, false, false, false, false, false, false, false, false] rfl rfl (by kernel_rfl) (fun _ _ _ h => h) (Or.inl ⟨by rfl, ?_⟩) ?_ ?_
  rotate_left; (intro w'; go_simp; with_reducible rfl)
  rotate_left; (go_frame; rfl)
  refine pure_ (i := 12) (N := some 50) (v := ?_) (a' := ?_) #[true, true, true, true, true, true, true, true, true, true, true, true, true, false, false, false, false, false, false, false, false, false, false, false, false, false, false, false, false, false, false, false, false, false, false, false, false, false, false] rfl rfl (by kernel_rfl) (fun _ _ _ h => h) (Or.inl ⟨by rfl, ?_⟩) ?_ ?_
  rotate_left; (intro w'; go_simp; with_reducible rfl)
  rotate_left; (go_frame; rfl)
  refine pure_ (i := 13) (N := some 51) (v := ?_) (a' := ?_) #[true, true, true, true, true, true, true, true, true, true, true, true, true, true, false, false, false, false, false, false, false, false, false, false, false, false, false, false, false, false, false, false, false, false, false, false, false, false, false] rfl rfl (by kernel_rfl) (fun _ _ _ h => h) (Or.inl ⟨by rfl, ?_⟩) ?_ ?_
  rotate_left; (intro w'; go_simp; with_reducible rfl)
  rotate_left; (go_frame; rfl)
  refine pure_ (i := 14) (N := some 52) (v := ?_) (a' := ?_) #[true, true, true, true, true, true, true, true, true, true, true, true, true, true, true, false, false, false, false, false, false, false, false, false, false, false, false, false, false, false, false, false, false, false, false, false, false, false, false] rfl rfl (by kernel_rfl) (fun _ _ _ h => h) (Or.inl ⟨by rfl, ?_⟩) ?_ ?_
  rotate_left; (intro w'; go_simp; with_reducible rfl)
  rotate_left; (go_frame; rfl)
  refine one_ (i := 15) (N := some 53) #[true, true, true, true, true, true, true, true, true, true, true, true, true, true, true, true, false, false, false, false, false, false, false, false, false, false, false, false, false, false, false, false, false, false, false, false, false, false, false] rfl rfl (by kernel_rfl) (by decide) (fun K hK => ?_)
  refine goes_ Tryd.func23 (by kernel_rfl) rfl #[.string (T2.extract 0 n2 ++ X), .agg #[.int .u64 (D : Int), .int .u64 (E : Int), .int .u64 (F : Int), .string ⟨#[]⟩, .string ⟨#[]⟩], .agg #[.int .u64 (A : Int), .int .u64 (B : Int), .int .u64 0, .string ⟨#[]⟩, .string ⟨#[]⟩], .agg #[.int .u64 (A : Int), .int .u64 ((B : Int) + 1), .int .u64 0, .string ⟨#[]⟩, .string ⟨#[]⟩]] (by rfl) rfl rfl (by (try simp only [List.map_toArray, List.map_cons, List.map_nil]); first | done | rfl) ?_
  refine (HR2.out u0 HBe.out).mono ?_
  rintro e u1 ⟨rfl, hb⟩
  have HU1 := Lib.hid (show u1.heap[G13]? = some (.cells #[.int .u64 (D : Int), .int .u64 (E : Int), .int .u64 (F : Int), .string ⟨#[]⟩, .string ⟨#[]⟩] 24 (0, 0)) from blk_below HSe.out hb)
  have HC1 := Lib.hid (HBe.out.trans (hb.mono HBe.out.size))
  clear hb HSe HBe
  refine ⟨_, rfl, ?_⟩
  clear hHeld
  refine hK.out _ _ (HU1.out) (fun hHeld => ?_)
  clear hK K
  refine norm_ (a' := ?_) ?_ ?_
  rotate_left
  · show Act.put _ (some 53) _ = _
    go_frame
    rfl
  refine pure_ (i := 16) (N := some 54) (v := ?_) (a' := ?_) #[true, true, true, true, true, true, true, true, true, true, true, true, true, true, true, true, true, false, false, false, false, false, false, false, false, false, false, false, false, false, false, false, false, false, false, false, false, false, false] rfl rfl (by kernel_rfl) (fun _ _ _ h => h) (Or.inl ⟨by rfl, ?_⟩) ?_ ?_
  rotate_left; (intro w'; go_simp; with_reducible rfl)
  rotate_left; (go_frame; rfl)
  refine pure_ (i := 17) (N := some 55) (v := ?_) (a' := ?_) #[true, true, true, true, true, true, true, true, true, true, true, true, true, true, true, true, true, true, false, false, false, false, false, false, false, false, false, false, false, false, false, false, false, false, false, false, false, false, false] rfl rfl (by kernel_rfl) (fun _ _ _ h => h) (Or.inl ⟨by rfl, ?_⟩) ?_ ?_
  rotate_left; (intro w'; go_simp; with_reducible rfl)
  rotate_left; (go_frame; rfl)
  refine pure_ (i := 18) (N := some 56) (v := ?_) (a' := ?_) #[true, true, true, true, true, true, true, true, true, true, true, true, true, true, true, true, true, true, true, false, false, false, false, false, false, false, false, false, false, false, false, false, false, false, false, false, false, false, false] rfl rfl (by kernel_rfl) (fun _ _ _ h => h) (Or.inl ⟨by rfl, ?_⟩) ?_ ?_
  rotate_left; (intro w'; go_simp; with_reducible rfl)
  rotate_left; (go_frame; rfl)
  refine pure_ (i := 19) (N := some 57) (v := ?_) (a' := ?_) #[true, true, true, true, true, true, true, true, true, true, true, true, true, true, true, true, true, true, true, true, false, false, false, false, false, false, false, false, false, false, false, false, false, false, false, false, false, false, false] rfl rfl (by kernel_rfl) (fun _ _ _ h => h) (Or.inl ⟨by rfl, ?_⟩) ?_ ?_
  rotate_left; (intro w'; go_simp; with_reducible rfl)
  rotate_left; (go_frame; rfl)
  refine pure_ (i := 20) (N := some 58) (v := ?_) (a' := ?_) #[true, true, true, true, true, true, true, true, true, true, true, true, true, true, true, true, true, true, true, true, true, false, false, false, false, false, false, false, false, false, false, false, false, false, false, false, false, false, false] rfl rfl (by kernel_rfl) (fun _ _ _ h => h) (Or.inl ⟨by rfl, ?_⟩) ?_ ?_
  rotate_left; (intro w'; go_simp; with_reducible rfl)
  rotate_left; (go_frame; rfl)
  refine pure_ (i := 21) (N := some 59) (v := ?_) (a' := ?_) #[true, true, true, true, true, true, true, true, true, true, true, true, true, true, true, true, true, true, true, true, true, true, false, false, false, false, false, false, false, false, false, false, false, false, false, false, false, false, false] rfl rfl (by kernel_rfl) (fun _ _ _ h => h) (Or.inl ⟨by rfl, ?_⟩) ?_ ?_
  rotate_left; (intro w'; go_simp; rw [if_pos (by omega)])
  rotate_left; (go_frame; rfl)
  refine pure_ (i := 22) (N := some 60) (v := ?_) (a' := ?_) #[true, true, true, true, true, true, true, true, true, true, true, true, true, true, true, true, true, true, true, true, true, true, true, false, false, false, false, false, false, false, false, false, false, false, false, false, false, false, false] rfl rfl (by kernel_rfl) (fun _ _ _ h => h) (Or.inl ⟨by rfl, ?_⟩) ?_ ?_
  rotate_left; (intro w'; go_simp; with_reducible rfl)
  rotate_left; (go_frame; rfl)
  refine pure_ (i := 23) (N := some 61) (v := ?_) (a' := ?_) #[true, true, true, true, true, true, true, true, true, true, true, true, true, true, true, true, true, true, true, true, true, true, true, true, false, false, false, false, false, false, false, false, false, false, false, false, false, false, false] rfl rfl (by kernel_rfl) (fun _ _ _ h => h) (Or.inl ⟨by rfl, ?_⟩) ?_ ?_
  rotate_left; (intro w'; go_simp; rw [if_neg (by omega)])
  rotate_left; (go_frame; rfl)
  refine take_ (i := 24) (N := some 62) (v := ?_) (a' := ?_) #[true, true, true, true, true, true, true, true, true, true, true, true, true, true, true, true, true, true, true, true, true, true, true, true, true, false, false, false, false, false, false, false, false, false, false, false, false, false, false] rfl rfl (by kernel_rfl) (fun _ _ _ h => h) (Or.inl ⟨by rfl, ?_⟩) hHeld ?_ ?_
  rotate_left
  · intro w' hS
    have y0 := blk_cell hS 0
    have y1 := blk_cell hS 1
    have y2 := blk_cell hS 2
    have y3 := blk_cell hS 3
    have y4 := blk_cell hS 4
    simp only [List.getElem?_toArray, List.getElem?_cons_zero, List.getElem?_cons_succ] at y0 y1 y2 y3 y4
    clear hS
    go_simp
    with_reducible rfl
  rotate_left; (go_frame; rfl)
  refine pure_ (i := 25) (N := some 63) (v := ?_) (a' := ?_) #[true, true, true, true, true, true, true, true, true, true, true, true, true, true, true, true, true, true, true, true, true, true, true, true, true, true, false, false, false, false, false, false, false, false, false, false, false, false, false] rfl rfl (by kernel_rfl) (fun _ _ _ h => h) (Or.inl ⟨by rfl, ?_⟩) ?_ ?_
  rotate_left; (intro w'; go_simp; with_reducible rfl)
  rotate_left; (go_frame; rfl)
  refine pure_ (i := 26) (N := some 64) (v := ?_) (a' := ?_) #[true, true, true, true, true, true, true, true, true, true, true, true, true, true, true, true, true, true, true, true, true, true, true, true, true, true, true, false, false, false, false, false, false, false, false, false, false, false, false] rfl rfl (by kernel_rfl) (fun _ _ _ h => h) (Or.inl ⟨by rfl, ?_⟩) ?_ ?_
  rotate_left; (intro w'; go_simp; with_reducible rfl)
  rotate_left; (go_frame; rfl)
  refine pure_ (i := 27) (N := some 65) (v := ?_) (a' := ?_) #[true, true, true, true, true, true, true, true, true, true, true, true, true, true, true, true, true, true, true, true, true, true, true, true, true, true, true, true, false, false, false, false, false, false, false, false, false, false, false] rfl rfl (by kernel_rfl) (fun _ _ _ h => h) (Or.inl ⟨by rfl, ?_⟩) ?_ ?_
  rotate_left; (intro w'; go_simp; with_reducible rfl)
  rotate_left; (go_frame; rfl)
  refine pure_ (i := 28) (N := some 66) (v := ?_) (a' := ?_) #[true, true, true, true, true, true, true, true, true, true, true, true, true, true, true, true, true, true, true, true, true, true, true, true, true, true, true, true, true, false, false, false, false, false, false, false, false, false, false] rfl rfl (by kernel_rfl) (fun _ _ _ h => h) (Or.inl ⟨by rfl, ?_⟩) ?_ ?_
  rotate_left; (intro w'; go_simp; with_reducible rfl)
  rotate_left; (go_frame; rfl)
  refine pure_ (i := 29) (N := some 67) (v := ?_) (a' := ?_) #[true, true, true, true, true, true, true, true, true, true, true, true, true, true, true, true, true, true, true, true, true, true, true, true, true, true, true, true, true, true, false, false, false, false, false, false, false, false, false] rfl rfl (by kernel_rfl) (fun _ _ _ h => h) (Or.inl ⟨by rfl, ?_⟩) ?_ ?_
  rotate_left; (intro w'; go_simp; with_reducible rfl)
  rotate_left; (go_frame; rfl)
  refine one_ (i := 30) (N := some 68) #[true, true, true, true, true, true, true, true, true, true, true, true, true, true, true, true, true, true, true, true, true, true, true, true, true, true, true, true, true, true, true, false, false, false, false, false, false, false, false] rfl rfl (by kernel_rfl) (by decide) (fun K hK => ?_)
  refine goes_ Tryd.func23 (by kernel_rfl) rfl #[.string (T1.extract 0 n1 ++ X), .agg #[.int .u64 (D : Int), .int .u64 (E : Int), .int .u64 (F : Int), .string ⟨#[]⟩, .string ⟨#[]⟩], .agg #[.int .u64 (A : Int), .int .u64 0, .int .u64 0, .string ⟨#[]⟩, .string ⟨#[]⟩], .agg #[.int .u64 ((A : Int) + 1), .int .u64 0, .int .u64 0, .string ⟨#[]⟩, .string ⟨#[]⟩]] (by rfl) rfl rfl (by (try simp only [List.map_toArray, List.map_cons, List.map_nil]); first | done | rfl) ?_
  refine (HR1.out u1 HC1.out).mono ?_
  rintro e u2 ⟨rfl, hb⟩
  have HU2 := Lib.hid (show u2.heap[G13]? = some (.cells #[.int .u64 (D : Int), .int .u64 (E : Int), .int .u64 (F : Int), .string ⟨#[]⟩, .string ⟨#[]⟩] 24 (0, 0)) from blk_below HU1.out hb)
  have HC2 := Lib.hid (HC1.out.trans (hb.mono HC1.out.size))
  clear hb HU1 HC1
  refine ⟨_, rfl, ?_⟩
  clear hHeld
  refine hK.out _ _ (HU2.out) (fun hHeld => ?_)
  clear hK K
  refine norm_ (a' := ?_) ?_ ?_
  rotate_left
  · show Act.put _ (some 68) _ = _
    go_frame
    rfl
  refine pure_ (i := 31) (N := some 69) (v := ?_) (a' := ?_) #[true, true, true, true, true, true, true, true, true, true, true, true, true, true, true, true, true, true, true, true, true, true, true, true, true, true, true, true, true, true, true, true, false, false, false, false, false, false, false] rfl rfl (by kernel_rfl) (fun _ _ _ h => h) (Or.inl ⟨by rfl, ?_⟩) ?_ ?_
  rotate_left; (intro w'; go_simp; with_reducible rfl)
  rotate_left; (go_frame; rfl)
  refine pure_ (i := 32) (N := some 70) (v := ?_) (a' := ?_) #[true, true, true, true, true, true, true, true, true, true, true, true, true, true, true, true, true, true, true, true, true, true, true, true, true, true, true, true, true, true, true, true, true, false, false, false, false, false, false] rfl rfl (by kernel_rfl) (fun _ _ _ h => h) (Or.inl ⟨by rfl, ?_⟩) ?_ ?_
  rotate_left; (intro w'; go_simp; with_reducible rfl)
  rotate_left; (go_frame; rfl)
  refine take_ (i := 33) (N := some 71) (v := ?_) (a' := ?_) #[true, true, true, true, true, true, true, true, true, true, true, true, true, true, true, true, true, true, true, true, true, true, true, true, true, true, true, true, true, true, true, true, true, true, false, false, false, false, false] rfl rfl (by kernel_rfl) (fun _ _ _ h => h) (Or.inl ⟨by rfl, ?_⟩) hHeld ?_ ?_
  rotate_left
  · intro w' hS
    have y0 := blk_cell hS 0
    have y1 := blk_cell hS 1
    have y2 := blk_cell hS 2
    have y3 := blk_cell hS 3
    have y4 := blk_cell hS 4
    simp only [List.getElem?_toArray, List.getElem?_cons_zero, List.getElem?_cons_succ] at y0 y1 y2 y3 y4
    clear hS
    go_simp
    with_reducible rfl
  rotate_left; (go_frame; rfl)
  refine pure_ (i := 34) (N := some 72) (v := ?_) (a' := ?_) #[true, true, true, true, true, true, true, true, true, true, true, true, true, true, true, true, true, true, true, true, true, true, true, true, true, true, true, true, true, true, true, true, true, true, true, false, false, false, false] rfl rfl (by kernel_rfl) (fun _ _ _ h => h) (Or.inl ⟨by rfl, ?_⟩) ?_ ?_
  rotate_left; (intro w'; go_simp; with_reducible rfl)
  rotate_left; (go_frame; rfl)
  refine pure_ (i := 35) (N := some 73) (v := ?_) (a' := ?_) #[true, true, true, true, true, true, true, true, true, true, true, true, true, true, true, true, true, true, true, true, true, true, true, true, true, true, true, true, true, true, true, true, true, true, true, true, false, false, false] rfl rfl (by kernel_rfl) (fun _ _ _ h => h) (Or.inl ⟨by rfl, ?_⟩) ?_ ?_
  rotate_left; (intro w'; go_simp; with_reducible rfl)
  rotate_left; (go_frame; rfl)
  refine one_ (i := 36) (N := some 74) #[true, true, true, true, true, true, true, true, true, true, true, true, true, true, true, true, true, true, true, true, true, true, true, true, true, true, true, true, true, true, true, true, true, true, true, true, true, false, false] rfl rfl (by kernel_rfl) (by decide) (fun K hK => ?_)
  refine goes_ Tryd.func23 (by kernel_rfl) rfl #[.string ⟨#[42]⟩, .agg #[.int .u64 (D : Int), .int .u64 (E : Int), .int .u64 (F : Int), .string ⟨#[]⟩, .string ⟨#[]⟩], .agg #[.int .u64 0, .int .u64 0, .int .u64 0, .string ⟨#[]⟩, .string ⟨#[]⟩], .agg #[.int .u64 0, .int .u64 0, .int .u64 0, .string ⟨#[]⟩, .string ⟨#[]⟩]] (by rfl) rfl rfl (by (try simp only [List.map_toArray, List.map_cons, List.map_nil]); first | done | rfl) ?_
  refine (HR0.out u2 HC2.out).mono ?_
  rintro e u3 ⟨rfl, hb⟩
  have HU3 := Lib.hid (show u3.heap[G13]? = some (.cells #[.int .u64 (D : Int), .int .u64 (E : Int), .int .u64 (F : Int), .string ⟨#[]⟩, .string ⟨#[]⟩] 24 (0, 0)) from blk_below HU2.out hb)
  have HC3 := Lib.hid (HC2.out.trans (hb.mono HC2.out.size))
  clear hb HU2 HC2
  refine ⟨_, rfl, ?_⟩
  clear hHeld
  refine hK.out _ _ (HU3.out) (fun hHeld => ?_)
  clear hK K
  refine norm_ (a' := ?_) ?_ ?_
  rotate_left
  · show Act.put _ (some 74) _ = _
    go_frame
    rfl
  refine pure_ (i := 37) (N := some 75) (v := ?_) (a' := ?_) #[true, true, true, true, true, true, true, true, true, true, true, true, true, true, true, true, true, true, true, true, true, true, true, true, true, true, true, true, true, true, true, true, true, true, true, true, true, true, false] rfl rfl (by kernel_rfl) (fun _ _ _ h => h) (Or.inl ⟨by rfl, ?_⟩) ?_ ?_
  rotate_left; (intro w'; go_simp; with_reducible rfl)
  rotate_left; (go_frame; rfl)
  refine pure_ (i := 38) (N := some 12) (v := ?_) (a' := ?_) #[true, true, true, true, true, true, true, true, true, true, true, true, true, true, true, true, true, true, true, true, true, true, true, true, true, true, true, true, true, true, true, true, true, true, true, true, true, true, true] rfl rfl (by kernel_rfl) (fun _ _ _ h => h) (Or.inl ⟨by rfl, ?_⟩) ?_ ?_
  rotate_left; (intro w'; go_simp; with_reducible rfl)
  rotate_left; (go_frame; rfl)
  refine done_ (by kernel_rfl) ?_
  clear hHeld
  go_wp2
  go_ret
  exact ⟨rfl, HC3.out⟩
end Go.Proofs.YtlhijjfbcgconaaDoor.P


/- Ranges: the law FnRangeTilde. -/
set_option linter.unusedVariables false
set_option linter.unusedSimpArgs false
namespace Go.Proofs.YtlhijjfbcgconaaDoor.P
open Go.RowKit Go.Proofs.YtlhijjfbcgconaaDoorW.PrintWords Go.Proofs.YtlhijjfbcgconaaDoorW.PrintLast Go.Proofs.YtlhijjfbcgconaaDoorW.PrintMore

theorem v16_call (a b c : Int) {A B C : Nat} (ha : IntKind.u64.wrap (Int.tmod a 1000) = (A : Int)) (hb : IntKind.u64.wrap (Int.tmod b 1000) = (B : Int)) (hc : IntKind.u64.wrap (Int.tmod c 1000) = (C : Int)) (W : World) :
    Calls Tryd.prog 21 #[.int .u16 a, .int .u16 b, .int .u16 c] W fun e w' => e = .returned (.agg #[.int .u64 (A : Int), .int .u64 (B : Int), .int .u64 (C : Int), .string ⟨#[]⟩, .string ⟨#[]⟩]) ∧ Below W.heap.size W w' :=
  laws_version16of.calls a b c _ _ _ _ _ W (by unfold laws_version16of.f; rw [ha, hb, hc])
theorem nd0 : Lib.nDigits 0 = 1 := Lib.nDigits_small (by decide)
theorem nd3 (A : Nat) (h : A < 1000) : Lib.nDigits A ≤ 3 := nd_le 2 A (by simpa using h)
end Go.Proofs.YtlhijjfbcgconaaDoor.P


/- Ranges: the law FnRangeAny. -/
set_option linter.unusedVariables false
set_option linter.unusedSimpArgs false
namespace Go.Proofs.YtlhijjfbcgconaaDoor.P
open Go.RowKit Go.Proofs.YtlhijjfbcgconaaDoorW.PrintWords Go.Proofs.YtlhijjfbcgconaaDoorW.PrintLast Go.Proofs.YtlhijjfbcgconaaDoorW.PrintMore

theorem letter_call (a : Int) (h : (Lit.int IntKind.u8 a).wf = true) : ∃ c : UInt8, (c = 120 ∨ c = 88 ∨ c = 42) ∧ ∀ W, Calls Tryd.prog 22 #[.int .u8 a] W fun e w' => e = .returned (.string ⟨#[c]⟩) ∧ Below W.heap.size W w' := by
  simp only [Lit.wf, IntKind.min, IntKind.max, IntKind.signed, IntKind.bits, Bool.and_eq_true, decide_eq_true_eq] at h
  obtain ⟨h0, h1⟩ : 0 ≤ a ∧ a ≤ 255 := by
    simp at h
    omega
  have h2 : Int.tmod a 3 = a % 3 := Int.tmod_eq_emod_of_nonneg h0
  have h3 : a % 3 = 0 ∨ a % 3 = 1 ∨ a % 3 = 2 := by omega
  have key : ∀ r, laws_letter16.f a = some r → ∀ W, Calls Tryd.prog 22 #[.int .u8 a] W fun e w' => e = .returned (.string r) ∧ Below W.heap.size W w' := fun r hr W => laws_letter16.calls a r W hr
  rcases h3 with h3 | h3 | h3
  · exact ⟨120, .inl rfl, key _ (by unfold laws_letter16.f; rw [h2, h3]; rfl)⟩
  · exact ⟨88, .inr (.inl rfl), key _ (by unfold laws_letter16.f; rw [h2, h3]; rfl)⟩
  · exact ⟨42, .inr (.inr rfl), key _ (by unfold laws_letter16.f; rw [h2, h3]; rfl)⟩
theorem cut2x (A B : Nat) (c : UInt8) : ((verT A B 0).extract 0 (Lib.nDigits A + 1 + Lib.nDigits B + 1) ++ ⟨#[c]⟩).data.toList = Lib.decDigits A ++ (46 :: (Lib.decDigits B ++ [46, c])) ∧ (verT A B 0).size = (Lib.nDigits A + 1 + Lib.nDigits B + 1) + 1 := by
  have h := part_list (verT A B 0) [] (Lib.decDigits A ++ (46 :: (Lib.decDigits B ++ [46]))) [48] (by rw [verT_list, dec0]; simp)
  rw [List.length_append, List.length_cons, List.length_append, Lib.decDigits_length, Lib.decDigits_length, List.length_nil, Nat.zero_add, List.length_singleton] at h
  refine ⟨?_, ?_⟩
  · rw [append_list, show Lib.nDigits A + 1 + Lib.nDigits B + 1 = Lib.nDigits A + (Lib.nDigits B + 1 + 1) by omega, h]
    simp
  · rw [verT_size, nd0]
theorem cut1x (A : Nat) (c : UInt8) : ((verT A 0 0).extract 0 (Lib.nDigits A + 1) ++ ⟨#[c]⟩).data.toList = Lib.decDigits A ++ [46, c] ∧ (verT A 0 0).size = (Lib.nDigits A + 1) + 3 := by
  have h := part_list (verT A 0 0) [] (Lib.decDigits A ++ [46]) [48, 46, 48] (by rw [verT_list, dec0]; simp)
  rw [List.length_append, Lib.decDigits_length, List.length_nil, Nat.zero_add, List.length_singleton] at h
  refine ⟨?_, ?_⟩
  · rw [append_list, h]
    simp
  · rw [verT_size, nd0]
set_option maxHeartbeats 3200000 in
set_option maxRecDepth 100000 in
theorem fnRangeAny (i0 i1 i2 i3 i4 i5 : Int) (w : World) (k0 : (Lit.int IntKind.u16 i0).wf = true) (k1 : (Lit.int IntKind.u16 i1).wf = true) (k2 : (Lit.int IntKind.u16 i2).wf = true) (k3 : (Lit.int IntKind.u16 i3).wf = true) (k4 : (Lit.int IntKind.u16 i4).wf = true) (k5 : (Lit.int IntKind.u8 i5).wf = true) (hE : TabsE w) :
    Calls Tryd.prog 7 #[.int .u16 i0, .int .u16 i1, .int .u16 i2, .int .u16 i3, .int .u16 i4, .int .u8 i5] w fun e w' => e = .returned (.bool true) ∧ Below w.heap.size w w' := by
  obtain ⟨A, hA, eA, fA⟩ := num16 i0 k0
  obtain ⟨B, hB, eB, fB⟩ := num16 i1 k1
  obtain ⟨D, hD, eD, -⟩ := num16 i2 k2
  obtain ⟨E, hE', eE, -⟩ := num16 i3 k3
  obtain ⟨F, hF, eF, -⟩ := num16 i4 k4
  obtain ⟨c, hc, hx⟩ := letter_call i5 k5
  have dA := nd3 A hA
  have dB := nd3 B hB
  refine any_walk i0 i1 i2 i3 i4 i5 (A := A) (B := B) (D := D) (E := E) (F := F) (n1 := Lib.nDigits A + 1) (n2 := Lib.nDigits A + 1 + Lib.nDigits B + 1) (T1 := verT A 0 0) (T2 := verT A B 0) (X := ⟨#[c]⟩) hA hB eA eB fA fB (cut1x A c).2 (cut2x A B c).2 (by rw [(cut1x A c).2]; omega) (by rw [(cut2x A B c).2]; omega) (by show 1 ≤ 100; decide)
    (fun W => v16_call i2 i3 i4 eD eE eF W) hx (fun W => text_call A 0 0 hA (by decide) (by decide) W) (fun W => text_call A B 0 hA hB (by decide) W) w ?_ ?_ ?_
  · exact fun W hW => rg_plain2x _ c hc A B hA hB D E F hD hE' hF (cut2x A B c).1 W (hE.below hW)
  · exact fun W hW => rg_plain1x _ c hc A hA D E F hD hE' hF (cut1x A c).1 W (hE.below hW)
  · exact fun W hW => rg_star _ 42 (.inr (.inr rfl)) D E F hD hE' hF rfl W (hE.below hW)
end Go.Proofs.YtlhijjfbcgconaaDoor.P

