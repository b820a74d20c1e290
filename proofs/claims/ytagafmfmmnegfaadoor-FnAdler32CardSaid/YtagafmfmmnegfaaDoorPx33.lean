-- WRITTEN by xprint.py (a program of this session, over the kit's print) out of the translation. Not trusted: Lean checks it.
import Derived.Test.YtagafmfmmnegfaaDoorPx0
import Derived.Test.YtagafmfmmnegfaaDoorPx30
import Derived.Test.YtagafmfmmnegfaaDoorPx32
namespace Go.Proofs.YtagafmfmmnegfaaDoor.P
open Go.RowKit Go.Proofs.YtagafmfmmnegfaaDoorW.PrintWords Go.Proofs.YtagafmfmmnegfaaDoorW.PrintLast Go.Proofs.YtagafmfmmnegfaaDoorW.PrintMore
attribute [local go_sem] max2_int min2_int max_two min_two max_three min_three max_four min_four   -- for this text's walks alone
set_option linter.unusedVariables false
set_option linter.unusedSimpArgs false

/-! ### sprig_Adler32: function 45 -/
def sprig_Adler32.f (k : Nat) (a0 : ByteArray) : Option (ByteArray) := (sprig_adler32sum.f k a0).bind fun t144 => (some t144)
theorem sprig_Adler32.mono : ∀ a0 k, LeO (sprig_Adler32.f k a0) (sprig_Adler32.f (k + 1) a0) := by
  intro a0 k
  unfold sprig_Adler32.f
  repeat' first
      | (with_reducible exact sprig_adler32sum.mono _ _)
      | (with_reducible exact LeO.refl _)
      | (with_reducible exact LeO.none _)
      | (with_reducible refine LeO.ite ?_ ?_)
      | (with_reducible refine LeO.bind ?_ (fun _ => ?_))
      | exact sprig_adler32sum.mono _ _
      | exact LeO.none _
      | refine LeO.ite ?_ ?_
      | refine LeO.bind ?_ (fun _ => ?_)
set_option maxHeartbeats 8000000 in
set_option maxRecDepth 100000 in
theorem sprig_Adler32.calls (k : Nat) (a0 : ByteArray) (r : ByteArray) (w : World) (h : sprig_Adler32.f k a0 = some r) (HT0W : TabsW w) :
    Calls Tryd.prog 45 #[.string a0] w fun e w' => e = .returned (.string r) ∧ Below w.heap.size w w' := by
  have HTW := Aside0.mk HT0W
  clear HT0W
  have HB := Aside0.mk (Below.refl w.heap.size w)
  have H : ((sprig_adler32sum.f k a0).bind fun t144 => (some t144)) = some r := h
  clear h
  replace H := Option.bind_eq_some_iff.mp H
  obtain ⟨t144, A20, H⟩ := H
  replace H : (some t144) = some r := H
  have A2 := Aside0.mk A20
  clear A20
  obtain rfl := Option.some.inj H
  go_enter Tryd.func45, Tryd.ntmps45
  go_wp2_with (first | ((with_reducible refine gate_callee (f := 75) rfl ?_); refine goesL_ (some 4) rfl rfl Tryd.func75 (by kernel_rfl) rfl #[.string a0] rfl (by (try simp only [List.map_toArray, List.map_cons, List.map_nil]); first | done | rfl | (simp only [List.length_drop, List.length_take]; rfl)) ?_; (with_reducible refine (sprig_adler32sum.calls k a0 t144 _ A2.out (TabsW.below HTW.out (by repeat (first | (with_reducible first | exact HB.out | apply below_alloc | apply pw_below_drewN | apply below_drew1) | exact HB.out)))).mono ?_); rintro e w3 ⟨rfl, hb⟩; refine ⟨_, rfl, ?_⟩; have n0_ := Aside0.mk (below_step (by repeat (first | (with_reducible first | exact HB.out | apply below_alloc | apply pw_below_drewN | apply below_drew1) | exact HB.out)) hb); clear HB; have HB := n0_; clear n0_; (try clear hb); (try clear hb2); (try clear hk); (try clear hi)))
  go_ret
  exact ⟨by first | rfl | (simp [errW_none, errW_some] <;> rfl) | (simp [*, errW_none, errW_some] <;> rfl), by repeat (first | (with_reducible first | exact HB.out | apply below_alloc | apply pw_below_drewN | apply below_drew1) | exact HB.out)⟩

/-! ### impl_Adler32: function 14 -/
def impl_Adler32.f (k : Nat) (a0 : ByteArray) : Option (ByteArray) := (sprig_Adler32.f k a0).bind fun t145 => (some t145)
theorem impl_Adler32.mono : ∀ a0 k, LeO (impl_Adler32.f k a0) (impl_Adler32.f (k + 1) a0) := by
  intro a0 k
  unfold impl_Adler32.f
  repeat' first
      | (with_reducible exact sprig_Adler32.mono _ _)
      | (with_reducible exact LeO.refl _)
      | (with_reducible exact LeO.none _)
      | (with_reducible refine LeO.ite ?_ ?_)
      | (with_reducible refine LeO.bind ?_ (fun _ => ?_))
      | exact sprig_Adler32.mono _ _
      | exact LeO.none _
      | refine LeO.ite ?_ ?_
      | refine LeO.bind ?_ (fun _ => ?_)
set_option maxHeartbeats 8000000 in
set_option maxRecDepth 100000 in
theorem impl_Adler32.calls (k : Nat) (a0 : ByteArray) (r : ByteArray) (w : World) (h : impl_Adler32.f k a0 = some r) (HT0W : TabsW w) :
    Calls Tryd.prog 14 #[.string a0] w fun e w' => e = .returned (.string r) ∧ Below w.heap.size w w' := by
  have HTW := Aside0.mk HT0W
  clear HT0W
  have HB := Aside0.mk (Below.refl w.heap.size w)
  have H : ((sprig_Adler32.f k a0).bind fun t145 => (some t145)) = some r := h
  clear h
  replace H := Option.bind_eq_some_iff.mp H
  obtain ⟨t145, A20, H⟩ := H
  replace H : (some t145) = some r := H
  have A2 := Aside0.mk A20
  clear A20
  obtain rfl := Option.some.inj H
  go_enter Tryd.func14, Tryd.ntmps14
  go_wp2_with (first | ((with_reducible refine gate_callee (f := 45) rfl ?_); refine goesL_ (some 4) rfl rfl Tryd.func45 (by kernel_rfl) rfl #[.string a0] rfl (by (try simp only [List.map_toArray, List.map_cons, List.map_nil]); first | done | rfl | (simp only [List.length_drop, List.length_take]; rfl)) ?_; (with_reducible refine (sprig_Adler32.calls k a0 t145 _ A2.out (TabsW.below HTW.out (by repeat (first | (with_reducible first | exact HB.out | apply below_alloc | apply pw_below_drewN | apply below_drew1) | exact HB.out)))).mono ?_); rintro e w3 ⟨rfl, hb⟩; refine ⟨_, rfl, ?_⟩; have n0_ := Aside0.mk (below_step (by repeat (first | (with_reducible first | exact HB.out | apply below_alloc | apply pw_below_drewN | apply below_drew1) | exact HB.out)) hb); clear HB; have HB := n0_; clear n0_; (try clear hb); (try clear hb2); (try clear hk); (try clear hi)))
  go_ret
  exact ⟨by first | rfl | (simp [errW_none, errW_some] <;> rfl) | (simp [*, errW_none, errW_some] <;> rfl), by repeat (first | (with_reducible first | exact HB.out | apply below_alloc | apply pw_below_drewN | apply below_drew1) | exact HB.out)⟩

/-! ### spec_decimal: function 46 -/
def spec_decimal.l0 : Nat → Int → ByteArray → Option (ByteArray)
  | 0, _, _ => none
  | k + 1, x0, x3 => if x0 > 9 then ((some (([((48 + (Int.tmod x0 10)) % 4294967296) % 256] : List Int) : List Int)).bind fun y146 => (if (strOfNums y146).size + x3.size ≤ 9223372036854775807 then (spec_decimal.l0 k ((Int.tdiv x0 10) % 4294967296) ((strOfNums y146) ++ x3)) else (none))) else ((some (([((48 + x0) % 4294967296) % 256] : List Int) : List Int)).bind fun y149 => (if (strOfNums y149).size + x3.size ≤ 9223372036854775807 then (some ((strOfNums y149) ++ x3)) else (none)))
def spec_decimal.f (k : Nat) (a0 : Int) : Option (ByteArray) := spec_decimal.l0 k a0 (⟨#[]⟩ : ByteArray)
theorem spec_decimal.mono_l : ∀ k, (∀ y0 y1, LeO (spec_decimal.l0 k y0 y1) (spec_decimal.l0 (k + 1) y0 y1))
  | 0 => fun _ _ r h => by simp [spec_decimal.l0] at h
  | k + 1 => by
    have ih0 := spec_decimal.mono_l k
    · intro y0 y1
      unfold spec_decimal.l0
      repeat' first
      | (with_reducible exact ih0 _ _)
      | (with_reducible exact LeO.refl _)
      | (with_reducible exact LeO.none _)
      | (with_reducible refine LeO.ite ?_ ?_)
      | (with_reducible refine LeO.bind ?_ (fun _ => ?_))
      | exact ih0 _ _
      | exact LeO.none _
      | refine LeO.ite ?_ ?_
      | refine LeO.bind ?_ (fun _ => ?_)
theorem spec_decimal.mono : ∀ a0 k, LeO (spec_decimal.f k a0) (spec_decimal.f (k + 1) a0) := by
  intro a0 k
  have ih0 := spec_decimal.mono_l k
  unfold spec_decimal.f
  repeat' first
      | (with_reducible exact ih0 _ _)
      | (with_reducible exact LeO.refl _)
      | (with_reducible exact LeO.none _)
      | (with_reducible refine LeO.ite ?_ ?_)
      | (with_reducible refine LeO.bind ?_ (fun _ => ?_))
      | exact ih0 _ _
      | exact LeO.none _
      | refine LeO.ite ?_ ?_
      | refine LeO.bind ?_ (fun _ => ?_)
set_option maxHeartbeats 8000000 in
set_option maxRecDepth 100000 in
theorem spec_decimal.calls (k : Nat) (a0 : Int) (r : ByteArray) (w : World) (h : spec_decimal.f k a0 = some r) :
    Calls Tryd.prog 46 #[.int .u32 a0] w fun e w' => e = .returned (.string r) ∧ Below w.heap.size w w' := by
  have HB := Aside0.mk (Below.refl w.heap.size w)
  have H : (spec_decimal.l0 k a0 (⟨#[]⟩ : ByteArray)) = some r := h
  clear h
  have H' := Aside0.mk H
  clear H
  go_enter Tryd.func46, Tryd.ntmps46
  go_wp2
  go_loopg [0, 3] k (fun kq v0 v3 w' => ∃ (x0_1 : Int) (x3_1 : ByteArray), v0 = .int .u32 x0_1 ∧ v3 = .string x3_1 ∧ Aside0 (spec_decimal.l0 kq x0_1 x3_1 = some r) ∧ Aside0 (kq ≤ k) ∧ Aside0 (Below w.heap.size w w'))
  case atStart => exact ⟨(a0), ((⟨#[]⟩ : ByteArray)), (by first | rfl | (simp; done) | (simp [*]; done)), (by first | rfl | (simp; done) | (simp [*]; done)), H', ⟨Nat.le_refl _⟩, ⟨by repeat (first | (with_reducible first | exact HB.out | apply below_alloc | apply pw_below_drewN | apply below_drew1) | exact HB.out)⟩⟩
  case round =>
    clear H'
    obtain ⟨x0_1, x3_1, rfl, rfl, HA, HK1, HB⟩ := hrel
    cases gk with
    | zero => exact absurd HA.out (by simp [spec_decimal.l0])
    | succ k1 =>
      have H := HA.out
      clear HA
      simp only [spec_decimal.l0] at H
      by_cases c2 : x0_1 > 9
      · rw [if_pos c2] at H
        have c2b0 : decide (9 < x0_1) = true := decide_eq_true c2
        clear c2
        obtain ⟨y146, hy146⟩ : ∃ y_ : List Int, y_ = (([((48 + (Int.tmod x0_1 10)) % 4294967296) % 256] : List Int)) := ⟨_, rfl⟩
        replace H : (if (strOfNums y146).size + x3_1.size ≤ 9223372036854775807 then (spec_decimal.l0 k1 ((Int.tdiv x0_1 10) % 4294967296) ((strOfNums y146) ++ x3_1)) else (none)) = some r := by first | (rw [hy146]; with_reducible exact H) | (have H2_ := (Option.bind_some _ _).symm.trans H; rw [hy146]; with_reducible exact H2_) | (have H2_ := (Option.bind_some _ _).symm.trans H; with_reducible exact H2_) | with_reducible exact H | (rw [hy146]; exact H) | exact H
        have Ny146 := Aside0.mk hy146
        clear hy146
        by_cases c3 : (strOfNums y146).size + x3_1.size ≤ 9223372036854775807
        · rw [if_pos c3] at H
          have c3b0 := eq_true c3
          have c3b1 : decide ((strOfNums y146).size + x3_1.size ≤ 9223372036854775807) = true := decide_eq_true c3
          try have c3b2 : (9223372036854775807 < (strOfNums y146).size + x3_1.size) = False := eq_false (Nat.not_lt.2 c3)
          have H' := Aside0.mk H
          clear H
          go_wp2_with (first | ((with_reducible refine gate_dst (N := 10) rfl ?_); refine Kd.R_lit (Kd.int .u8) _ 5 ?hg (N := 10) ?hd (xs := ([((48 + (Int.tmod x0_1 10)) % 4294967296) % 256] : List Int)) (inner := [.int .u8 (((48 + (Int.tmod x0_1 10)) % 4294967296) % 256)]) (ok := fun _ => True) (okp := fun _ => True) ?hr ?hp (fun _ hk => hk) trivial (Below.refl _ _) (Nat.le_refl _) (by simp) ?_; (case hd => rfl); (case hg => rfl); (case hr => first | (go_simp; done) | (go_simp; rfl)); (case hp => exact (Reps.one (show Kd.M (Kd.int .u8) _ _ _ (((48 + (Int.tmod x0_1 10)) % 4294967296) % 256) [.int .u8 (((48 + (Int.tmod x0_1 10)) % 4294967296) % 256)] from rfl) (Reps.none _ _))); intro v147 w4 ho5 hb hg_ hnew_; clear hg_ hnew_; (first | rw [← Ny146.out] at ho5 | (simp only [Int.reduceToNat] at ho5; rw [← Ny146.out] at ho5)); have n0_ := Aside0.mk (Kd.R_lower ho5 (below_size (by repeat (first | (with_reducible first | exact HB.out | apply below_alloc | apply pw_below_drewN | apply below_drew1) | exact HB.out)))); have n1_ := Aside0.mk (below_step (by repeat (first | (with_reducible first | exact HB.out | apply below_alloc | apply pw_below_drewN | apply below_drew1) | exact HB.out)) hb); clear HB; have HO148 := n0_; have HB := n1_; clear n0_ n1_; clear hb ho5; have hcv6 := own_string (P := Tryd.prog) Tryd.underlying66 Tryd.underlying5 Tryd.underlying9 (Kd.own_of_R HO148.out)))
          go_roundg k1
          case measure => have := HK1.out; omega
          case rel => exact ⟨((Int.tdiv x0_1 10) % 4294967296), ((strOfNums y146) ++ x3_1), (by first | rfl | (simp; done) | (simp [*]; done)), (by first | rfl | (simp; done) | (simp [*]; done)), H', ⟨by have := HK1.out; omega⟩, ⟨by repeat (first | (with_reducible first | exact HB.out | apply below_alloc | apply pw_below_drewN | apply below_drew1) | exact HB.out)⟩⟩
        · rw [if_neg c3] at H
          exact absurd H (by simp)
      · rw [if_neg c2] at H
        have c2b0 : decide (9 < x0_1) = false := decide_eq_false c2
        clear c2
        obtain ⟨y149, hy149⟩ : ∃ y_ : List Int, y_ = (([((48 + x0_1) % 4294967296) % 256] : List Int)) := ⟨_, rfl⟩
        replace H : (if (strOfNums y149).size + x3_1.size ≤ 9223372036854775807 then (some ((strOfNums y149) ++ x3_1)) else (none)) = some r := by first | (rw [hy149]; with_reducible exact H) | (have H2_ := (Option.bind_some _ _).symm.trans H; rw [hy149]; with_reducible exact H2_) | (have H2_ := (Option.bind_some _ _).symm.trans H; with_reducible exact H2_) | with_reducible exact H | (rw [hy149]; exact H) | exact H
        have Ny149 := Aside0.mk hy149
        clear hy149
        by_cases c7 : (strOfNums y149).size + x3_1.size ≤ 9223372036854775807
        · rw [if_pos c7] at H
          have c7b0 := eq_true c7
          have c7b1 : decide ((strOfNums y149).size + x3_1.size ≤ 9223372036854775807) = true := decide_eq_true c7
          try have c7b2 : (9223372036854775807 < (strOfNums y149).size + x3_1.size) = False := eq_false (Nat.not_lt.2 c7)
          obtain rfl := Option.some.inj H
          go_wp2_with (first | ((with_reducible refine gate_dst (N := 19) rfl ?_); refine Kd.R_lit (Kd.int .u8) _ 5 ?hg (N := 19) ?hd (xs := ([((48 + x0_1) % 4294967296) % 256] : List Int)) (inner := [.int .u8 (((48 + x0_1) % 4294967296) % 256)]) (ok := fun _ => True) (okp := fun _ => True) ?hr ?hp (fun _ hk => hk) trivial (Below.refl _ _) (Nat.le_refl _) (by simp) ?_; (case hd => rfl); (case hg => rfl); (case hr => first | (go_simp; done) | (go_simp; rfl)); (case hp => exact (Reps.one (show Kd.M (Kd.int .u8) _ _ _ (((48 + x0_1) % 4294967296) % 256) [.int .u8 (((48 + x0_1) % 4294967296) % 256)] from rfl) (Reps.none _ _))); intro v150 w8 ho9 hb hg_ hnew_; clear hg_ hnew_; (first | rw [← Ny149.out] at ho9 | (simp only [Int.reduceToNat] at ho9; rw [← Ny149.out] at ho9)); have n0_ := Aside0.mk (Kd.R_lower ho9 (below_size (by repeat (first | (with_reducible first | exact HB.out | apply below_alloc | apply pw_below_drewN | apply below_drew1) | exact HB.out)))); have n1_ := Aside0.mk (below_step (by repeat (first | (with_reducible first | exact HB.out | apply below_alloc | apply pw_below_drewN | apply below_drew1) | exact HB.out)) hb); clear HB; have HO151 := n0_; have HB := n1_; clear n0_ n1_; clear hb ho9; have hcv10 := own_string (P := Tryd.prog) Tryd.underlying66 Tryd.underlying5 Tryd.underlying9 (Kd.own_of_R HO151.out)))
          go_ret
          exact ⟨by first | rfl | (simp [errW_none, errW_some] <;> rfl) | (simp [*, errW_none, errW_some] <;> rfl), by repeat (first | (with_reducible first | exact HB.out | apply below_alloc | apply pw_below_drewN | apply below_drew1) | exact HB.out)⟩
        · rw [if_neg c7] at H
          exact absurd H (by simp)

/-! ### spec_Adler32: function 15 -/
def spec_Adler32.l0 : Nat → ByteArray → Int → Int → Int → Option (ByteArray)
  | 0, _, _, _, _ => none
  | k + 1, x0, x3, x4, x5 => if x5 < (x0.size : Int) then (if 0 ≤ x5 then (spec_Adler32.l0 k x0 (((x3 + ((bt x0 x5) % 4294967296)) % 4294967296) % 65521) (((x4 + (((x3 + ((bt x0 x5) % 4294967296)) % 4294967296) % 65521)) % 4294967296) % 65521) (wrap64 (x5 + 1))) else (none)) else ((spec_decimal.f k (Go.bits .or .u32 ((x4 * 65536) % 4294967296) x3)).bind fun t152 => (some t152))
def spec_Adler32.f (k : Nat) (a0 : ByteArray) : Option (ByteArray) := spec_Adler32.l0 k a0 1 0 0
theorem spec_Adler32.mono_l : ∀ k, (∀ y0 y1 y2 y3, LeO (spec_Adler32.l0 k y0 y1 y2 y3) (spec_Adler32.l0 (k + 1) y0 y1 y2 y3))
  | 0 => fun _ _ _ _ r h => by simp [spec_Adler32.l0] at h
  | k + 1 => by
    have ih0 := spec_Adler32.mono_l k
    · intro y0 y1 y2 y3
      unfold spec_Adler32.l0
      repeat' first
      | (with_reducible exact ih0 _ _ _ _)
      | (with_reducible exact spec_decimal.mono _ _)
      | (with_reducible exact LeO.refl _)
      | (with_reducible exact LeO.none _)
      | (with_reducible refine LeO.ite ?_ ?_)
      | (with_reducible refine LeO.bind ?_ (fun _ => ?_))
      | exact ih0 _ _ _ _
      | exact spec_decimal.mono _ _
      | exact LeO.none _
      | refine LeO.ite ?_ ?_
      | refine LeO.bind ?_ (fun _ => ?_)
theorem spec_Adler32.mono : ∀ a0 k, LeO (spec_Adler32.f k a0) (spec_Adler32.f (k + 1) a0) := by
  intro a0 k
  have ih0 := spec_Adler32.mono_l k
  unfold spec_Adler32.f
  repeat' first
      | (with_reducible exact ih0 _ _ _ _)
      | (with_reducible exact spec_decimal.mono _ _)
      | (with_reducible exact LeO.refl _)
      | (with_reducible exact LeO.none _)
      | (with_reducible refine LeO.ite ?_ ?_)
      | (with_reducible refine LeO.bind ?_ (fun _ => ?_))
      | exact ih0 _ _ _ _
      | exact spec_decimal.mono _ _
      | exact LeO.none _
      | refine LeO.ite ?_ ?_
      | refine LeO.bind ?_ (fun _ => ?_)
set_option maxHeartbeats 8000000 in
set_option maxRecDepth 100000 in
theorem spec_Adler32.calls (k : Nat) (a0 : ByteArray) (r : ByteArray) (w : World) (h : spec_Adler32.f k a0 = some r) :
    Calls Tryd.prog 15 #[.string a0] w fun e w' => e = .returned (.string r) ∧ Below w.heap.size w w' := by
  have HB := Aside0.mk (Below.refl w.heap.size w)
  have H : (spec_Adler32.l0 k a0 1 0 0) = some r := h
  clear h
  have H' := Aside0.mk H
  clear H
  go_enter Tryd.func15, Tryd.ntmps15
  go_wp2
  go_loopg [3, 4, 5] k (fun kq v3 v4 v5 w' => ∃ (x3_1 : Int) (x4_1 : Int) (x5_1 : Int), v3 = .int .u32 x3_1 ∧ v4 = .int .u32 x4_1 ∧ v5 = .int .i64 x5_1 ∧ Aside0 (spec_Adler32.l0 kq a0 x3_1 x4_1 x5_1 = some r) ∧ Aside0 (kq ≤ k) ∧ Aside0 (Below w.heap.size w w'))
  case atStart => exact ⟨(1), (0), (0), (by first | rfl | (simp; done) | (simp [*]; done)), (by first | rfl | (simp; done) | (simp [*]; done)), (by first | rfl | (simp; done) | (simp [*]; done)), H', ⟨Nat.le_refl _⟩, ⟨by repeat (first | (with_reducible first | exact HB.out | apply below_alloc | apply pw_below_drewN | apply below_drew1) | exact HB.out)⟩⟩
  case round =>
    clear H'
    try clear c1
    obtain ⟨x3_1, x4_1, x5_1, rfl, rfl, rfl, HA, HK1, HB⟩ := hrel
    cases gk with
    | zero => exact absurd HA.out (by simp [spec_Adler32.l0])
    | succ k1 =>
      have H := HA.out
      clear HA
      simp only [spec_Adler32.l0] at H
      by_cases c2 : x5_1 < (a0.size : Int)
      · rw [if_pos c2] at H
        have c2b0 : decide (x5_1 < (a0.size : Int)) = true := decide_eq_true c2
        clear c2
        by_cases c3 : 0 ≤ x5_1
        · rw [if_pos c3] at H
          have c3b0 : decide (0 ≤ x5_1) = true := decide_eq_true c3
          clear c3
          have H' := Aside0.mk H
          clear H
          have p4 : 0 ≤ (x5_1 : Int) := of_decide_eq_true (by first | (with_reducible assumption) | assumption)
          have q4 : x5_1 < (a0.size : Int) := of_decide_eq_true (by first | (with_reducible assumption) | assumption)
          have hx4 := bt_at a0 x5_1
          replace p4 := eq_true p4
          replace q4 := eq_true q4
          go_wp2
          go_roundg k1
          case measure => have := HK1.out; omega
          case rel => exact ⟨(((x3_1 + ((bt a0 x5_1) % 4294967296)) % 4294967296) % 65521), (((x4_1 + (((x3_1 + ((bt a0 x5_1) % 4294967296)) % 4294967296) % 65521)) % 4294967296) % 65521), (wrap64 (x5_1 + 1)), (by first | rfl | (simp; done) | (simp [*]; done)), (by first | rfl | (simp; done) | (simp [*]; done)), (by first | rfl | (simp; done) | (simp [*]; done)), H', ⟨by have := HK1.out; omega⟩, ⟨by repeat (first | (with_reducible first | exact HB.out | apply below_alloc | apply pw_below_drewN | apply below_drew1) | exact HB.out)⟩⟩
        · rw [if_neg c3] at H
          exact absurd H (by simp)
      · rw [if_neg c2] at H
        have c2b0 : decide (x5_1 < (a0.size : Int)) = false := decide_eq_false c2
        clear c2
        replace H := Option.bind_eq_some_iff.mp H
        obtain ⟨t152, A50, H⟩ := H
        replace H : (some t152) = some r := H
        have A5 := Aside0.mk A50
        clear A50
        obtain rfl := Option.some.inj H
        go_wp2_with (first | ((with_reducible refine gate_callee (f := 46) rfl ?_); refine goesL_ (some 27) rfl rfl Tryd.func46 (by kernel_rfl) rfl #[.int .u32 (Go.bits .or .u32 ((x4_1 * 65536) % 4294967296) x3_1)] rfl (by (try simp only [List.map_toArray, List.map_cons, List.map_nil]); first | done | rfl | (simp only [List.length_drop, List.length_take]; rfl)) ?_; (with_reducible refine (spec_decimal.calls k1 (Go.bits .or .u32 ((x4_1 * 65536) % 4294967296) x3_1) t152 _ A5.out).mono ?_); rintro e w6 ⟨rfl, hb⟩; refine ⟨_, rfl, ?_⟩; have n0_ := Aside0.mk (below_step (by repeat (first | (with_reducible first | exact HB.out | apply below_alloc | apply pw_below_drewN | apply below_drew1) | exact HB.out)) hb); clear HB; have HB := n0_; clear n0_; (try clear hb); (try clear hb2); (try clear hk); (try clear hi)))
        go_ret
        exact ⟨by first | rfl | (simp [errW_none, errW_some] <;> rfl) | (simp [*, errW_none, errW_some] <;> rfl), by repeat (first | (with_reducible first | exact HB.out | apply below_alloc | apply pw_below_drewN | apply below_drew1) | exact HB.out)⟩

/-! ### laws_FnAdler32: function 4 -/
def laws_FnAdler32.f (k : Nat) (a0 : ByteArray) : Option (Bool) := if (a0.size : Int) > 2147483647 then (some true) else (if (a0.size : Int) > 500 then (some true) else ((impl_Adler32.f k a0).bind fun t153 => ((spec_Adler32.f k a0).bind fun t154 => (some (t153.toList == t154.toList)))))
theorem laws_FnAdler32.mono : ∀ a0 k, LeO (laws_FnAdler32.f k a0) (laws_FnAdler32.f (k + 1) a0) := by
  intro a0 k
  unfold laws_FnAdler32.f
  repeat' first
      | (with_reducible exact impl_Adler32.mono _ _)
      | (with_reducible exact spec_Adler32.mono _ _)
      | (with_reducible exact LeO.refl _)
      | (with_reducible exact LeO.none _)
      | (with_reducible refine LeO.ite ?_ ?_)
      | (with_reducible refine LeO.bind ?_ (fun _ => ?_))
      | exact impl_Adler32.mono _ _
      | exact spec_Adler32.mono _ _
      | exact LeO.none _
      | refine LeO.ite ?_ ?_
      | refine LeO.bind ?_ (fun _ => ?_)
set_option maxHeartbeats 8000000 in
set_option maxRecDepth 100000 in
theorem laws_FnAdler32.calls (k : Nat) (a0 : ByteArray) (r : Bool) (w : World) (h : laws_FnAdler32.f k a0 = some r) (HT0W : TabsW w) :
    Calls Tryd.prog 4 #[.string a0] w fun e w' => e = .returned (.bool r) ∧ Below w.heap.size w w' := by
  have HTW := Aside0.mk HT0W
  clear HT0W
  have HB := Aside0.mk (Below.refl w.heap.size w)
  have H : (if (a0.size : Int) > 2147483647 then (some true) else (if (a0.size : Int) > 500 then (some true) else ((impl_Adler32.f k a0).bind fun t153 => ((spec_Adler32.f k a0).bind fun t154 => (some (t153.toList == t154.toList)))))) = some r := h
  clear h
  by_cases c2 : (a0.size : Int) > 2147483647
  · rw [if_pos c2] at H
    have c2b0 : decide (2147483647 < (a0.size : Int)) = true := decide_eq_true c2
    have c2b1 : decide (2147483647 < a0.size) = true := decide_eq_true (by omega)
    clear c2
    obtain rfl := Option.some.inj H
    go_enter Tryd.func4, Tryd.ntmps4
    go_wp2
    go_ret
    exact ⟨by first | rfl | (simp [errW_none, errW_some] <;> rfl) | (simp [*, errW_none, errW_some] <;> rfl), by repeat (first | (with_reducible first | exact HB.out | apply below_alloc | apply pw_below_drewN | apply below_drew1) | exact HB.out)⟩
  · rw [if_neg c2] at H
    have c2b0 : decide (2147483647 < (a0.size : Int)) = false := decide_eq_false c2
    have c2b1 : decide (2147483647 < a0.size) = false := decide_eq_false (by omega)
    clear c2
    by_cases c3 : (a0.size : Int) > 500
    · rw [if_pos c3] at H
      have c3b0 : decide (500 < (a0.size : Int)) = true := decide_eq_true c3
      have c3b1 : decide (500 < a0.size) = true := decide_eq_true (by omega)
      clear c3
      obtain rfl := Option.some.inj H
      go_enter Tryd.func4, Tryd.ntmps4
      go_wp2
      go_ret
      exact ⟨by first | rfl | (simp [errW_none, errW_some] <;> rfl) | (simp [*, errW_none, errW_some] <;> rfl), by repeat (first | (with_reducible first | exact HB.out | apply below_alloc | apply pw_below_drewN | apply below_drew1) | exact HB.out)⟩
    · rw [if_neg c3] at H
      have c3b0 : decide (500 < (a0.size : Int)) = false := decide_eq_false c3
      have c3b1 : decide (500 < a0.size) = false := decide_eq_false (by omega)
      clear c3
      replace H := Option.bind_eq_some_iff.mp H
      obtain ⟨t153, A40, H⟩ := H
      replace H : ((spec_Adler32.f k a0).bind fun t154 => (some (t153.toList == t154.toList))) = some r := H
      have A4 := Aside0.mk A40
      clear A40
      replace H := Option.bind_eq_some_iff.mp H
      obtain ⟨t154, A50, H⟩ := H
      replace H : (some (t153.toList == t154.toList)) = some r := H
      have A5 := Aside0.mk A50
      clear A50
      obtain rfl := Option.some.inj H
      go_enter Tryd.func4, Tryd.ntmps4
      go_wp2_with (first | (go_at_call 14; (with_reducible refine (impl_Adler32.calls k a0 t153 _ A4.out (TabsW.below HTW.out (by repeat (first | (with_reducible first | exact HB.out | apply below_alloc | apply pw_below_drewN | apply below_drew1) | exact HB.out)))).mono ?_); rintro e w6 ⟨rfl, hb⟩; have n0_ := Aside0.mk (below_step (by repeat (first | (with_reducible first | exact HB.out | apply below_alloc | apply pw_below_drewN | apply below_drew1) | exact HB.out)) hb); clear HB; have HB := n0_; clear n0_; (try clear hb); (try clear hb2); (try clear hk); (try clear hi)) | (go_at_call 15; (with_reducible refine (spec_Adler32.calls k a0 t154 _ A5.out).mono ?_); rintro e w7 ⟨rfl, hb⟩; have n0_ := Aside0.mk (below_step (by repeat (first | (with_reducible first | exact HB.out | apply below_alloc | apply pw_below_drewN | apply below_drew1) | exact HB.out)) hb); clear HB; have HB := n0_; clear n0_; (try clear hb); (try clear hb2); (try clear hk); (try clear hi)))
      go_ret
      exact ⟨by first | rfl | (simp [errW_none, errW_some] <;> rfl) | (simp [*, errW_none, errW_some] <;> rfl), by repeat (first | (with_reducible first | exact HB.out | apply below_alloc | apply pw_below_drewN | apply below_drew1) | exact HB.out)⟩

/-- THE ONE PURE STATEMENT of laws_FnAdler32: yours. -/
def laws_FnAdler32.Pure : Prop := ∀ (a0 : ByteArray), a0.size ≤ 140737488351232 → ∃ k, laws_FnAdler32.f k a0 = some true
theorem laws_FnAdler32.walk (P : laws_FnAdler32.Pure) (a0 : ByteArray) (w : World) (w0 : a0.size ≤ 140737488351232) (HT0W : TabsW w) :
    Calls Tryd.prog 4 #[.string a0] w fun e w' => e = .returned (.bool true) ∧ Below w.heap.size w w' := by
  obtain ⟨k, h⟩ := P a0 w0
  refine (laws_FnAdler32.calls k a0 true w h HT0W).mono ?_
  rintro e w' ⟨rfl, hd⟩
  exact ⟨rfl, hd⟩

end Go.Proofs.YtagafmfmmnegfaaDoor.P
