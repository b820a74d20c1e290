-- WRITTEN by xprint.py (a program of this session, over the kit's print) out of the translation. Not trusted: Lean checks it.
import Derived.Test.YtlhijjfbcgconaaDoorZPx0
import Derived.Test.YtlhijjfbcgconaaDoorZPx20
namespace Go.Proofs.YtlhijjfbcgconaaDoor.P
open Go.RowKit Go.Proofs.YtlhijjfbcgconaaDoorW.PrintWords Go.Proofs.YtlhijjfbcgconaaDoorW.PrintLast Go.Proofs.YtlhijjfbcgconaaDoorW.PrintMore
attribute [local go_sem] max2_int min2_int max_two min_two max_three min_three max_four min_four run_store_float   -- for this text's walks alone
set_option linter.unusedVariables false
set_option linter.unusedSimpArgs false

/-! ### strconv_FormatUint_60: function 60 -/
def strconv_FormatUint_60.f (a0 : Int) (a1 : Int) : Option (ByteArray) := (strconv_FormatUint_74.f a0 a1).bind fun t244 => (some t244)
set_option maxHeartbeats 8000000 in
set_option maxRecDepth 100000 in
theorem strconv_FormatUint_60.calls (a0 : Int) (a1 : Int) (r : ByteArray) (w : World) (h : strconv_FormatUint_60.f a0 a1 = some r) (HT0W : TabsW w) :
    Calls Tryd.prog 60 #[.int .u64 a0, .int .i64 a1] w fun e w' => e = .returned (.string r) ∧ Below w.heap.size w w' := by
  have HTW := Aside0.mk HT0W
  clear HT0W
  have HB := Aside0.mk (Below.refl w.heap.size w)
  have H : ((strconv_FormatUint_74.f a0 a1).bind fun t244 => (some t244)) = some r := h
  clear h
  replace H := Option.bind_eq_some_iff.mp H
  obtain ⟨t244, A30, H⟩ := H
  replace H : (some t244) = some r := H
  have A3 := Aside0.mk A30
  clear A30
  as_aux_lemma =>
    obtain rfl := Option.some.inj H
    go_enter Tryd.func60, Tryd.ntmps60
    go_wp2_with (first | ((with_reducible refine gate_callee (f := 74) rfl ?_); refine goesL_ (some 7) rfl rfl Tryd.func74 (by kernel_rfl) rfl #[.int .u64 a0, .int .i64 a1] rfl (by (try simp only [List.map_toArray, List.map_cons, List.map_nil]); first | done | rfl | (simp only [List.length_drop, List.length_take]; rfl)) ?_; (with_reducible refine (strconv_FormatUint_74.calls a0 a1 t244 _ A3.out (TabsW.below HTW.out (by repeat (first | (with_reducible first | exact HB.out | apply below_alloc | apply pw_below_drewN | apply below_drew1) | exact HB.out)))).mono ?_); rintro e w4 ⟨rfl, hb⟩; refine ⟨_, rfl, ?_⟩; have n0_ := Aside0.mk (below_step (by repeat (first | (with_reducible first | exact HB.out | apply below_alloc | apply pw_below_drewN | apply below_drew1) | exact HB.out)) hb); clear HB; have HB := n0_; clear n0_; (try clear hb); (try clear hb2); (try clear hk); (try clear hi)))
    go_ret
    exact ⟨by first | rfl | (simp [errW_none, errW_some] <;> rfl) | (simp [*, errW_none, errW_some] <;> rfl), by repeat (first | (with_reducible first | exact HB.out | apply below_alloc | apply pw_below_drewN | apply below_drew1) | exact HB.out)⟩


/-! ### semver_Version_String: function 40 -/
def semver_Version_String.j0 : Nat → ByteArray → Int → Int → Int → ByteArray → ByteArray → ByteArray → Option (ByteArray)
  | 0, _, _, _, _, _, _, _ => none
  | k + 1, x3, x246000, x246001, x246002, x246003, x246004, x246005 => if x246004.toList = ([] : List UInt8) then (some x3) else (if 1 + x246004.size ≤ 9223372036854775807 then (if x3.size + ((⟨#[43]⟩ : ByteArray) ++ x246004).size ≤ 9223372036854775807 then (some (x3 ++ ((⟨#[43]⟩ : ByteArray) ++ x246004))) else (none)) else (none))
def semver_Version_String.f (k : Nat) (a0_0 : Int) (a0_1 : Int) (a0_2 : Int) (a0_3 : ByteArray) (a0_4 : ByteArray) (a0_5 : ByteArray) : Option (ByteArray) := (strconv_FormatUint_60.f a0_0 10).bind fun t246 => (if t246.size + 1 ≤ 9223372036854775807 then ((strconv_FormatUint_60.f a0_1 10).bind fun t247 => (if (t246 ++ (⟨#[46]⟩ : ByteArray)).size + t247.size ≤ 9223372036854775807 then (if ((t246 ++ (⟨#[46]⟩ : ByteArray)) ++ t247).size + 1 ≤ 9223372036854775807 then ((strconv_FormatUint_60.f a0_2 10).bind fun t248 => (if (((t246 ++ (⟨#[46]⟩ : ByteArray)) ++ t247) ++ (⟨#[46]⟩ : ByteArray)).size + t248.size ≤ 9223372036854775807 then (if a0_3.toList = ([] : List UInt8) then (semver_Version_String.j0 k ((((t246 ++ (⟨#[46]⟩ : ByteArray)) ++ t247) ++ (⟨#[46]⟩ : ByteArray)) ++ t248) a0_0 a0_1 a0_2 a0_3 a0_4 a0_5) else (if 1 + a0_3.size ≤ 9223372036854775807 then (if ((((t246 ++ (⟨#[46]⟩ : ByteArray)) ++ t247) ++ (⟨#[46]⟩ : ByteArray)) ++ t248).size + ((⟨#[45]⟩ : ByteArray) ++ a0_3).size ≤ 9223372036854775807 then (semver_Version_String.j0 k (((((t246 ++ (⟨#[46]⟩ : ByteArray)) ++ t247) ++ (⟨#[46]⟩ : ByteArray)) ++ t248) ++ ((⟨#[45]⟩ : ByteArray) ++ a0_3)) a0_0 a0_1 a0_2 a0_3 a0_4 a0_5) else (none)) else (none))) else (none))) else (none)) else (none))) else (none))
theorem semver_Version_String.mono_l : ∀ k, (∀ y0 y1 y2 y3 y4 y5 y6, LeO (semver_Version_String.j0 k y0 y1 y2 y3 y4 y5 y6) (semver_Version_String.j0 (k + 1) y0 y1 y2 y3 y4 y5 y6))
  | 0 => fun _ _ _ _ _ _ _ r h => by simp [semver_Version_String.j0] at h
  | k + 1 => by
    have ih0 := semver_Version_String.mono_l k
    · intro y0 y1 y2 y3 y4 y5 y6
      unfold semver_Version_String.j0
      repeat' first
      | (with_reducible exact ih0 _ _ _ _ _ _ _)
      | (with_reducible exact LeO.refl _)
      | (with_reducible exact LeO.none _)
      | (with_reducible refine LeO.ite ?_ ?_)
      | (with_reducible refine LeO.bind ?_ (fun _ => ?_))
      | exact ih0 _ _ _ _ _ _ _
      | exact LeO.none _
      | refine LeO.ite ?_ ?_
      | refine LeO.bind ?_ (fun _ => ?_)
theorem semver_Version_String.mono : ∀ a0 a1 a2 a3 a4 a5 k, LeO (semver_Version_String.f k a0 a1 a2 a3 a4 a5) (semver_Version_String.f (k + 1) a0 a1 a2 a3 a4 a5) := by
  intro a0 a1 a2 a3 a4 a5 k
  have ih0 := semver_Version_String.mono_l k
  unfold semver_Version_String.f
  repeat' first
      | (with_reducible exact ih0 _ _ _ _ _ _ _)
      | (with_reducible exact LeO.refl _)
      | (with_reducible exact LeO.none _)
      | (with_reducible refine LeO.ite ?_ ?_)
      | (with_reducible refine LeO.bind ?_ (fun _ => ?_))
      | exact ih0 _ _ _ _ _ _ _
      | exact LeO.none _
      | refine LeO.ite ?_ ?_
      | refine LeO.bind ?_ (fun _ => ?_)
def semver_Version_String.T1 : Bool × List (List Nat × List Nat) := (true, [([], []), ([0], [0]), ([1], [1]), ([2], [2]), ([], []), ([4], [4]), ([5, 2], [5]), ([3, 6], [3, 6]), ([7], [7]), ([], []), ([9], [9]), ([10, 6], [10]), ([8, 11], [8, 11]), ([12, 11, 0, 1, 2, 3, 4, 5, 6, 7, 8, 9, 10, 11, 12], [12])])
def semver_Version_String.B1 : List Nat := [0, 1, 3, 7, 0, 16, 55, 127, 255, 0, 512, 1655, 4095, 8191]
theorem semver_Version_String.tab1 : rtab .any (opsOf Tryd.f40 1) = semver_Version_String.T1 := by kernel_rfl
theorem semver_Version_String.bits1 : waitsOk semver_Version_String.T1.2 semver_Version_String.B1 = true := by kernel_rfl
set_option maxHeartbeats 8000000 in
set_option maxRecDepth 100000 in
theorem semver_Version_String.calls (k : Nat) (a0_0 : Int) (a0_1 : Int) (a0_2 : Int) (a0_3 : ByteArray) (a0_4 : ByteArray) (a0_5 : ByteArray) (r : ByteArray) (w : World) (h : semver_Version_String.f k a0_0 a0_1 a0_2 a0_3 a0_4 a0_5 = some r) (HT0W : TabsW w) :
    Calls Tryd.prog 40 #[.agg #[.int .u64 a0_0, .int .u64 a0_1, .int .u64 a0_2, .string a0_3, .string a0_4, .string a0_5]] w fun e w' => e = .returned (.string r) ∧ Below w.heap.size w w' := by
  have HTW := Aside0.mk HT0W
  clear HT0W
  have hu69 := Tryd.underlying69
  have HB := Aside0.mk (Below.refl w.heap.size w)
  have H : ((strconv_FormatUint_60.f a0_0 10).bind fun t246 => (if t246.size + 1 ≤ 9223372036854775807 then ((strconv_FormatUint_60.f a0_1 10).bind fun t247 => (if (t246 ++ (⟨#[46]⟩ : ByteArray)).size + t247.size ≤ 9223372036854775807 then (if ((t246 ++ (⟨#[46]⟩ : ByteArray)) ++ t247).size + 1 ≤ 9223372036854775807 then ((strconv_FormatUint_60.f a0_2 10).bind fun t248 => (if (((t246 ++ (⟨#[46]⟩ : ByteArray)) ++ t247) ++ (⟨#[46]⟩ : ByteArray)).size + t248.size ≤ 9223372036854775807 then (if a0_3.toList = ([] : List UInt8) then (semver_Version_String.j0 k ((((t246 ++ (⟨#[46]⟩ : ByteArray)) ++ t247) ++ (⟨#[46]⟩ : ByteArray)) ++ t248) a0_0 a0_1 a0_2 a0_3 a0_4 a0_5) else (if 1 + a0_3.size ≤ 9223372036854775807 then (if ((((t246 ++ (⟨#[46]⟩ : ByteArray)) ++ t247) ++ (⟨#[46]⟩ : ByteArray)) ++ t248).size + ((⟨#[45]⟩ : ByteArray) ++ a0_3).size ≤ 9223372036854775807 then (semver_Version_String.j0 k (((((t246 ++ (⟨#[46]⟩ : ByteArray)) ++ t247) ++ (⟨#[46]⟩ : ByteArray)) ++ t248) ++ ((⟨#[45]⟩ : ByteArray) ++ a0_3)) a0_0 a0_1 a0_2 a0_3 a0_4 a0_5) else (none)) else (none))) else (none))) else (none)) else (none))) else (none))) = some r := h
  clear h
  replace H := Option.bind_eq_some_iff.mp H
  obtain ⟨t246, A20, H⟩ := H
  replace H : (if t246.size + 1 ≤ 9223372036854775807 then ((strconv_FormatUint_60.f a0_1 10).bind fun t247 => (if (t246 ++ (⟨#[46]⟩ : ByteArray)).size + t247.size ≤ 9223372036854775807 then (if ((t246 ++ (⟨#[46]⟩ : ByteArray)) ++ t247).size + 1 ≤ 9223372036854775807 then ((strconv_FormatUint_60.f a0_2 10).bind fun t248 => (if (((t246 ++ (⟨#[46]⟩ : ByteArray)) ++ t247) ++ (⟨#[46]⟩ : ByteArray)).size + t248.size ≤ 9223372036854775807 then (if a0_3.toList = ([] : List UInt8) then (semver_Version_String.j0 k ((((t246 ++ (⟨#[46]⟩ : ByteArray)) ++ t247) ++ (⟨#[46]⟩ : ByteArray)) ++ t248) a0_0 a0_1 a0_2 a0_3 a0_4 a0_5) else (if 1 + a0_3.size ≤ 9223372036854775807 then (if ((((t246 ++ (⟨#[46]⟩ : ByteArray)) ++ t247) ++ (⟨#[46]⟩ : ByteArray)) ++ t248).size + ((⟨#[45]⟩ : ByteArray) ++ a0_3).size ≤ 9223372036854775807 then (semver_Version_String.j0 k (((((t246 ++ (⟨#[46]⟩ : ByteArray)) ++ t247) ++ (⟨#[46]⟩ : ByteArray)) ++ t248) ++ ((⟨#[45]⟩ : ByteArray) ++ a0_3)) a0_0 a0_1 a0_2 a0_3 a0_4 a0_5) else (none)) else (none))) else (none))) else (none)) else (none))) else (none)) = some r := H
  have A2 := Aside0.mk A20
  clear A20
  by_cases c3 : t246.size + 1 ≤ 9223372036854775807
  · rw [if_pos c3] at H
    have c3b0 := eq_true c3
    have c3b1 : decide (t246.size + 1 ≤ 9223372036854775807) = true := decide_eq_true c3
    try have c3b2 : (9223372036854775807 < t246.size + 1) = False := eq_false (Nat.not_lt.2 c3)
    replace H := Option.bind_eq_some_iff.mp H
    obtain ⟨t247, A40, H⟩ := H
    replace H : (if (t246 ++ (⟨#[46]⟩ : ByteArray)).size + t247.size ≤ 9223372036854775807 then (if ((t246 ++ (⟨#[46]⟩ : ByteArray)) ++ t247).size + 1 ≤ 9223372036854775807 then ((strconv_FormatUint_60.f a0_2 10).bind fun t248 => (if (((t246 ++ (⟨#[46]⟩ : ByteArray)) ++ t247) ++ (⟨#[46]⟩ : ByteArray)).size + t248.size ≤ 9223372036854775807 then (if a0_3.toList = ([] : List UInt8) then (semver_Version_String.j0 k ((((t246 ++ (⟨#[46]⟩ : ByteArray)) ++ t247) ++ (⟨#[46]⟩ : ByteArray)) ++ t248) a0_0 a0_1 a0_2 a0_3 a0_4 a0_5) else (if 1 + a0_3.size ≤ 9223372036854775807 then (if ((((t246 ++ (⟨#[46]⟩ : ByteArray)) ++ t247) ++ (⟨#[46]⟩ : ByteArray)) ++ t248).size + ((⟨#[45]⟩ : ByteArray) ++ a0_3).size ≤ 9223372036854775807 then (semver_Version_String.j0 k (((((t246 ++ (⟨#[46]⟩ : ByteArray)) ++ t247) ++ (⟨#[46]⟩ : ByteArray)) ++ t248) ++ ((⟨#[45]⟩ : ByteArray) ++ a0_3)) a0_0 a0_1 a0_2 a0_3 a0_4 a0_5) else (none)) else (none))) else (none))) else (none)) else (none)) = some r := H
    have A4 := Aside0.mk A40
    clear A40
    by_cases c5 : (t246 ++ (⟨#[46]⟩ : ByteArray)).size + t247.size ≤ 9223372036854775807
    · rw [if_pos c5] at H
      have c5b0 := eq_true c5
      have c5b1 : decide ((t246 ++ (⟨#[46]⟩ : ByteArray)).size + t247.size ≤ 9223372036854775807) = true := decide_eq_true c5
      try have c5b2 : (9223372036854775807 < (t246 ++ (⟨#[46]⟩ : ByteArray)).size + t247.size) = False := eq_false (Nat.not_lt.2 c5)
      try have c5b4 := c5b2
      try simp only [ByteArray.size_append, show (⟨#[46]⟩ : ByteArray).size = 1 from rfl, show (⟨#[45]⟩ : ByteArray).size = 1 from rfl, show (⟨#[43]⟩ : ByteArray).size = 1 from rfl] at c5b4
      by_cases c6 : ((t246 ++ (⟨#[46]⟩ : ByteArray)) ++ t247).size + 1 ≤ 9223372036854775807
      · rw [if_pos c6] at H
        have c6b0 := eq_true c6
        have c6b1 : decide (((t246 ++ (⟨#[46]⟩ : ByteArray)) ++ t247).size + 1 ≤ 9223372036854775807) = true := decide_eq_true c6
        try have c6b2 : (9223372036854775807 < ((t246 ++ (⟨#[46]⟩ : ByteArray)) ++ t247).size + 1) = False := eq_false (Nat.not_lt.2 c6)
        try have c6b4 := c6b2
        try simp only [ByteArray.size_append, show (⟨#[46]⟩ : ByteArray).size = 1 from rfl, show (⟨#[45]⟩ : ByteArray).size = 1 from rfl, show (⟨#[43]⟩ : ByteArray).size = 1 from rfl] at c6b4
        replace H := Option.bind_eq_some_iff.mp H
        obtain ⟨t248, A70, H⟩ := H
        replace H : (if (((t246 ++ (⟨#[46]⟩ : ByteArray)) ++ t247) ++ (⟨#[46]⟩ : ByteArray)).size + t248.size ≤ 9223372036854775807 then (if a0_3.toList = ([] : List UInt8) then (semver_Version_String.j0 k ((((t246 ++ (⟨#[46]⟩ : ByteArray)) ++ t247) ++ (⟨#[46]⟩ : ByteArray)) ++ t248) a0_0 a0_1 a0_2 a0_3 a0_4 a0_5) else (if 1 + a0_3.size ≤ 9223372036854775807 then (if ((((t246 ++ (⟨#[46]⟩ : ByteArray)) ++ t247) ++ (⟨#[46]⟩ : ByteArray)) ++ t248).size + ((⟨#[45]⟩ : ByteArray) ++ a0_3).size ≤ 9223372036854775807 then (semver_Version_String.j0 k (((((t246 ++ (⟨#[46]⟩ : ByteArray)) ++ t247) ++ (⟨#[46]⟩ : ByteArray)) ++ t248) ++ ((⟨#[45]⟩ : ByteArray) ++ a0_3)) a0_0 a0_1 a0_2 a0_3 a0_4 a0_5) else (none)) else (none))) else (none)) = some r := H
        have A7 := Aside0.mk A70
        clear A70
        by_cases c8 : (((t246 ++ (⟨#[46]⟩ : ByteArray)) ++ t247) ++ (⟨#[46]⟩ : ByteArray)).size + t248.size ≤ 9223372036854775807
        · rw [if_pos c8] at H
          have c8b0 := eq_true c8
          have c8b1 : decide ((((t246 ++ (⟨#[46]⟩ : ByteArray)) ++ t247) ++ (⟨#[46]⟩ : ByteArray)).size + t248.size ≤ 9223372036854775807) = true := decide_eq_true c8
          try have c8b2 : (9223372036854775807 < (((t246 ++ (⟨#[46]⟩ : ByteArray)) ++ t247) ++ (⟨#[46]⟩ : ByteArray)).size + t248.size) = False := eq_false (Nat.not_lt.2 c8)
          try have c8b4 := c8b2
          try simp only [ByteArray.size_append, show (⟨#[46]⟩ : ByteArray).size = 1 from rfl, show (⟨#[45]⟩ : ByteArray).size = 1 from rfl, show (⟨#[43]⟩ : ByteArray).size = 1 from rfl] at c8b4
          have HC9 := Aside0.mk H
          clear H
          go_enter Tryd.func40, Tryd.ntmps40
          try go_wp2_with (first | ((with_reducible refine gate_dst (N := 1) rfl ?_); refine box_event ?hg (N := 1) ?hd (cs := #[.int .u64 a0_0, .int .u64 a0_1, .int .u64 a0_2, .string a0_3, .string a0_4, .string a0_5]) (t := 69) ?hr ?_; (case hd => rfl); (case hg => rfl); (case hr => first | (go_simp; done) | (go_simp; rfl)); intro gb245 hg w10 hbox hb; have n0_ := Aside0.mk (below_step (by repeat (first | (with_reducible first | exact HB.out | apply below_alloc | apply pw_below_drewN | apply below_drew1) | exact HB.out)) hb); have n1_ := Aside0.mk (hbox); have n2_ := Aside0.mk ((by rw [hg]; exact (below_size (by repeat (first | (with_reducible first | exact HB.out | apply below_alloc | apply pw_below_drewN | apply below_drew1) | exact HB.out))) : w.heap.size ≤ gb245)); have n3_ := Aside0.mk ((by rw [hg]; exact (below_size (by repeat (first | (with_reducible first | exact HB.out | apply below_alloc | apply pw_below_drewN | apply below_drew1) | exact HB.out))) : w.heap.size ≤ gb245)); clear HB; have HB := n0_; have BK245 := n1_; have GW245 := n2_; have GE245 := n3_; clear n0_ n1_ n2_ n3_; clear hb hbox hg))
          have n0_ := Aside0.mk (blk_drew BK245.out)
          have n1_ := Aside0.mk (below_drew1 HB.out)
          clear BK245
          clear HB
          have BK245 := n0_
          have HB := n1_
          clear n0_ n1_
          refine start_ (n := 14) (S := fun w' => w'.cell? ⟨gb245, 0, none⟩ = some (.int .u64 a0_0) ∧ w'.cell? ⟨gb245, 1, none⟩ = some (.int .u64 a0_1) ∧ w'.cell? ⟨gb245, 2, none⟩ = some (.int .u64 a0_2) ∧ w'.cell? ⟨gb245, 3, none⟩ = some (.string a0_3) ∧ w'.cell? ⟨gb245, 4, none⟩ = some (.string a0_4) ∧ w'.cell? ⟨gb245, 5, none⟩ = some (.string a0_5)) (ds := []) #[false, false, false, false, false, false, false, false, false, false, false, false, false, false] (by kernel_rfl) rfl rfl ⟨(blk_cell BK245.out 0).trans rfl, (blk_cell BK245.out 1).trans rfl, (blk_cell BK245.out 2).trans rfl, (blk_cell BK245.out 3).trans rfl, (blk_cell BK245.out 4).trans rfl, (blk_cell BK245.out 5).trans rfl⟩ (fun hHeld => ?_); refine with_tabW semver_Version_String.tab1 semver_Version_String.bits1 (fun HT_ HW_ => ?_)
          generalize w10.drew = w11 at BK245 HB hHeld ⊢
          refine pure_ (i := 0) (N := some 4) (v := ?_) (a' := ?_) #[true, false, false, false, false, false, false, false, false, false, false, false, false, false] rfl rfl (any_of HT_.out (by kernel_rfl)) (fun _ _ _ h => h) (Or.inl ⟨by rfl, ?_⟩) ?_ ?_
          rotate_left
          · intro w'
            go_simp
            with_reducible rfl
          rotate_left
          · simp only [Act.put, List.setIfInBounds_toArray, List.set_cons_zero, List.set_cons_succ, i64_w, i32_w]
            rfl
          refine pure_ (i := 4) (N := some 8) (v := ?_) (a' := ?_) #[true, false, false, false, true, false, false, false, false, false, false, false, false, false] rfl rfl (any_of HT_.out (by kernel_rfl)) (fun _ _ _ h => h) (Or.inl ⟨by rfl, ?_⟩) ?_ ?_
          rotate_left
          · intro w'
            go_simp
            with_reducible rfl
          rotate_left
          · simp only [Act.put, List.setIfInBounds_toArray, List.set_cons_zero, List.set_cons_succ, i64_w, i32_w]
            rfl
          refine pure_ (i := 9) (N := some 13) (v := ?_) (a' := ?_) #[true, false, false, false, true, false, false, false, false, true, false, false, false, false] rfl rfl (any_of HT_.out (by kernel_rfl)) (fun _ _ _ h => h) (Or.inl ⟨by rfl, ?_⟩) ?_ ?_
          rotate_left
          · intro w'
            go_simp
            with_reducible rfl
          rotate_left
          · simp only [Act.put, List.setIfInBounds_toArray, List.set_cons_zero, List.set_cons_succ, i64_w, i32_w]
            rfl
          refine take_ (i := 1) (N := some 5) (v := ?_) (a' := ?_) #[true, true, false, false, true, false, false, false, false, true, false, false, false, false] rfl rfl (take_ofW HT_.out HW_.out (by kernel_rfl)) (fun _ _ _ h => h) (Or.inl ⟨by rfl, ?_⟩) hHeld ?_ ?_
          rotate_left
          · rintro w' ⟨s0, s1, s2, s3, s4, s5⟩
            go_simp
            with_reducible rfl
          rotate_left
          · simp only [Act.put, List.setIfInBounds_toArray, List.set_cons_zero, List.set_cons_succ, i64_w, i32_w]
            rfl
          refine take_ (i := 5) (N := some 9) (v := ?_) (a' := ?_) #[true, true, false, false, true, true, false, false, false, true, false, false, false, false] rfl rfl (take_ofW HT_.out HW_.out (by kernel_rfl)) (fun _ _ _ h => h) (Or.inl ⟨by rfl, ?_⟩) hHeld ?_ ?_
          rotate_left
          · rintro w' ⟨s0, s1, s2, s3, s4, s5⟩
            go_simp
            with_reducible rfl
          rotate_left
          · simp only [Act.put, List.setIfInBounds_toArray, List.set_cons_zero, List.set_cons_succ, i64_w, i32_w]
            rfl
          refine take_ (i := 10) (N := some 14) (v := ?_) (a' := ?_) #[true, true, false, false, true, true, false, false, false, true, true, false, false, false] rfl rfl (take_ofW HT_.out HW_.out (by kernel_rfl)) (fun _ _ _ h => h) (Or.inl ⟨by rfl, ?_⟩) hHeld ?_ ?_
          rotate_left
          · rintro w' ⟨s0, s1, s2, s3, s4, s5⟩
            go_simp
            with_reducible rfl
          rotate_left
          · simp only [Act.put, List.setIfInBounds_toArray, List.set_cons_zero, List.set_cons_succ, i64_w, i32_w]
            rfl
          refine one_ (i := 2) (N := some 6) #[true, true, true, false, true, true, false, false, false, true, true, false, false, false] rfl rfl (one_of HT_.out (by kernel_rfl)) (by decide) (fun K hK => ?_)
          refine goes_ Tryd.func60 (by kernel_rfl) rfl #[.int .u64 a0_0, .int .i64 10] (by rfl) rfl rfl (by (try simp only [List.map_toArray, List.map_cons, List.map_nil]); first | done | rfl | (simp only [List.length_drop, List.length_take]; rfl)) ?_
          with_reducible refine (strconv_FormatUint_60.calls a0_0 10 t246 _ A2.out (TabsW.below HTW.out (by repeat (first | (with_reducible first | exact HB.out | apply below_alloc | apply pw_below_drewN | apply below_drew1) | exact HB.out)))).mono ?_
          rintro e w12 ⟨rfl, hb⟩
          refine ⟨_, rfl, ?_⟩
          have n0_ := Aside0.mk (blk_below (g := gb245) (o := .cells #[.int .u64 a0_0, .int .u64 a0_1, .int .u64 a0_2, .string a0_3, .string a0_4, .string a0_5] 69 (0, 0)) (by (with_reducible repeat (first | refine blk_drewN ?_ _ | refine blk_drew ?_ | refine blk_alloc ?_ _)); exact BK245.out) hb)
          have n1_ := Aside0.mk (below_step (by repeat (first | (with_reducible first | exact HB.out | apply below_alloc | apply pw_below_drewN | apply below_drew1 | refine below_set ?_ GE245.out) | exact HB.out)) hb)
          clear BK245
          clear HB
          have BK245 := n0_
          have HB := n1_
          clear n0_ n1_
          (try clear hb)
          (try clear hb2)
          (try clear hk)
          (try clear hi)
          refine hK.out _ _ ⟨(blk_cell BK245.out 0).trans rfl, (blk_cell BK245.out 1).trans rfl, (blk_cell BK245.out 2).trans rfl, (blk_cell BK245.out 3).trans rfl, (blk_cell BK245.out 4).trans rfl, (blk_cell BK245.out 5).trans rfl⟩ (fun hHeld => ?_)
          clear hK K
          refine norm_ (a' := ?_) ?_ ?_
          rotate_left
          · show Act.put _ (some 6) _ = _
            simp only [Act.put, List.setIfInBounds_toArray, List.set_cons_zero, List.set_cons_succ, i64_w, i32_w]
            rfl
          refine pure_ (i := 3) (N := some 7) (v := ?_) (a' := ?_) #[true, true, true, true, true, true, false, false, false, true, true, false, false, false] rfl rfl (any_of HT_.out (by kernel_rfl)) (fun _ _ _ h => h) (Or.inl ⟨by rfl, ?_⟩) ?_ ?_
          rotate_left
          · intro w'
            go_simp
            with_reducible rfl
          rotate_left
          · simp only [Act.put, List.setIfInBounds_toArray, List.set_cons_zero, List.set_cons_succ, i64_w, i32_w]
            rfl
          refine one_ (i := 6) (N := some 10) #[true, true, true, true, true, true, true, false, false, true, true, false, false, false] rfl rfl (one_of HT_.out (by kernel_rfl)) (by decide) (fun K hK => ?_)
          refine goes_ Tryd.func60 (by kernel_rfl) rfl #[.int .u64 a0_1, .int .i64 10] (by rfl) rfl rfl (by (try simp only [List.map_toArray, List.map_cons, List.map_nil]); first | done | rfl | (simp only [List.length_drop, List.length_take]; rfl)) ?_
          with_reducible refine (strconv_FormatUint_60.calls a0_1 10 t247 _ A4.out (TabsW.below HTW.out (by repeat (first | (with_reducible first | exact HB.out | apply below_alloc | apply pw_below_drewN | apply below_drew1) | exact HB.out)))).mono ?_
          rintro e w13 ⟨rfl, hb⟩
          refine ⟨_, rfl, ?_⟩
          have n0_ := Aside0.mk (blk_below (g := gb245) (o := .cells #[.int .u64 a0_0, .int .u64 a0_1, .int .u64 a0_2, .string a0_3, .string a0_4, .string a0_5] 69 (0, 0)) (by (with_reducible repeat (first | refine blk_drewN ?_ _ | refine blk_drew ?_ | refine blk_alloc ?_ _)); exact BK245.out) hb)
          have n1_ := Aside0.mk (below_step (by repeat (first | (with_reducible first | exact HB.out | apply below_alloc | apply pw_below_drewN | apply below_drew1 | refine below_set ?_ GE245.out) | exact HB.out)) hb)
          clear BK245
          clear HB
          have BK245 := n0_
          have HB := n1_
          clear n0_ n1_
          (try clear hb)
          (try clear hb2)
          (try clear hk)
          (try clear hi)
          refine hK.out _ _ ⟨(blk_cell BK245.out 0).trans rfl, (blk_cell BK245.out 1).trans rfl, (blk_cell BK245.out 2).trans rfl, (blk_cell BK245.out 3).trans rfl, (blk_cell BK245.out 4).trans rfl, (blk_cell BK245.out 5).trans rfl⟩ (fun hHeld => ?_)
          clear hK K
          refine norm_ (a' := ?_) ?_ ?_
          rotate_left
          · show Act.put _ (some 10) _ = _
            simp only [Act.put, List.setIfInBounds_toArray, List.set_cons_zero, List.set_cons_succ, i64_w, i32_w]
            rfl
          refine pure_ (i := 7) (N := some 11) (v := ?_) (a' := ?_) #[true, true, true, true, true, true, true, true, false, true, true, false, false, false] rfl rfl (any_of HT_.out (by kernel_rfl)) (fun _ _ _ h => h) (Or.inl ⟨by rfl, ?_⟩) ?_ ?_
          rotate_left
          · intro w'
            go_simp
            with_reducible rfl
          rotate_left
          · simp only [Act.put, List.setIfInBounds_toArray, List.set_cons_zero, List.set_cons_succ, i64_w, i32_w]
            rfl
          refine pure_ (i := 8) (N := some 12) (v := ?_) (a' := ?_) #[true, true, true, true, true, true, true, true, true, true, true, false, false, false] rfl rfl (any_of HT_.out (by kernel_rfl)) (fun _ _ _ h => h) (Or.inl ⟨by rfl, ?_⟩) ?_ ?_
          rotate_left
          · intro w'
            go_simp
            with_reducible rfl
          rotate_left
          · simp only [Act.put, List.setIfInBounds_toArray, List.set_cons_zero, List.set_cons_succ, i64_w, i32_w]
            rfl
          refine one_ (i := 11) (N := some 15) #[true, true, true, true, true, true, true, true, true, true, true, true, false, false] rfl rfl (one_of HT_.out (by kernel_rfl)) (by decide) (fun K hK => ?_)
          refine goes_ Tryd.func60 (by kernel_rfl) rfl #[.int .u64 a0_2, .int .i64 10] (by rfl) rfl rfl (by (try simp only [List.map_toArray, List.map_cons, List.map_nil]); first | done | rfl | (simp only [List.length_drop, List.length_take]; rfl)) ?_
          with_reducible refine (strconv_FormatUint_60.calls a0_2 10 t248 _ A7.out (TabsW.below HTW.out (by repeat (first | (with_reducible first | exact HB.out | apply below_alloc | apply pw_below_drewN | apply below_drew1) | exact HB.out)))).mono ?_
          rintro e w14 ⟨rfl, hb⟩
          refine ⟨_, rfl, ?_⟩
          have n0_ := Aside0.mk (blk_below (g := gb245) (o := .cells #[.int .u64 a0_0, .int .u64 a0_1, .int .u64 a0_2, .string a0_3, .string a0_4, .string a0_5] 69 (0, 0)) (by (with_reducible repeat (first | refine blk_drewN ?_ _ | refine blk_drew ?_ | refine blk_alloc ?_ _)); exact BK245.out) hb)
          have n1_ := Aside0.mk (below_step (by repeat (first | (with_reducible first | exact HB.out | apply below_alloc | apply pw_below_drewN | apply below_drew1 | refine below_set ?_ GE245.out) | exact HB.out)) hb)
          clear BK245
          clear HB
          have BK245 := n0_
          have HB := n1_
          clear n0_ n1_
          (try clear hb)
          (try clear hb2)
          (try clear hk)
          (try clear hi)
          refine hK.out _ _ ⟨(blk_cell BK245.out 0).trans rfl, (blk_cell BK245.out 1).trans rfl, (blk_cell BK245.out 2).trans rfl, (blk_cell BK245.out 3).trans rfl, (blk_cell BK245.out 4).trans rfl, (blk_cell BK245.out 5).trans rfl⟩ (fun hHeld => ?_)
          clear hK K
          refine norm_ (a' := ?_) ?_ ?_
          rotate_left
          · show Act.put _ (some 15) _ = _
            simp only [Act.put, List.setIfInBounds_toArray, List.set_cons_zero, List.set_cons_succ, i64_w, i32_w]
            rfl
          refine pure_ (i := 12) (N := some 16) (v := ?_) (a' := ?_) #[true, true, true, true, true, true, true, true, true, true, true, true, true, false] rfl rfl (any_of HT_.out (by kernel_rfl)) (fun _ _ _ h => h) (Or.inl ⟨by rfl, ?_⟩) ?_ ?_
          rotate_left
          · intro w'
            go_simp
            with_reducible rfl
          rotate_left
          · simp only [Act.put, List.setIfInBounds_toArray, List.set_cons_zero, List.set_cons_succ, i64_w, i32_w]
            rfl
          refine pure_ (i := 13) (N := some 3) (v := ?_) (a' := ?_) #[true, true, true, true, true, true, true, true, true, true, true, true, true, true] rfl rfl (any_of HT_.out (by kernel_rfl)) (fun _ _ _ h => h) (Or.inl ⟨by rfl, ?_⟩) ?_ ?_
          rotate_left
          · intro w'
            go_simp
            with_reducible rfl
          rotate_left
          · simp only [Act.put, List.setIfInBounds_toArray, List.set_cons_zero, List.set_cons_succ, i64_w, i32_w]
            rfl
          refine done_ (done_of HT_.out (by kernel_rfl)) ?_
          have hcz15_0 : w14.cell? ⟨gb245, 0, none⟩ = some (.int .u64 a0_0) := (blk_cell BK245.out 0).trans rfl
          have hcz15_1 : w14.cell? ⟨gb245, 1, none⟩ = some (.int .u64 a0_1) := (blk_cell BK245.out 1).trans rfl
          have hcz15_2 : w14.cell? ⟨gb245, 2, none⟩ = some (.int .u64 a0_2) := (blk_cell BK245.out 2).trans rfl
          have hcz15_3 : w14.cell? ⟨gb245, 3, none⟩ = some (.string a0_3) := (blk_cell BK245.out 3).trans rfl
          have hcz15_4 : w14.cell? ⟨gb245, 4, none⟩ = some (.string a0_4) := (blk_cell BK245.out 4).trans rfl
          have hcz15_5 : w14.cell? ⟨gb245, 5, none⟩ = some (.string a0_5) := (blk_cell BK245.out 5).trans rfl
          have hfz15_0 := blk_frozen BK245.out 0
          have hfz15_1 := blk_frozen BK245.out 1
          have hfz15_2 := blk_frozen BK245.out 2
          have hfz15_3 := blk_frozen BK245.out 3
          have hfz15_4 := blk_frozen BK245.out 4
          have hfz15_5 := blk_frozen BK245.out 5
          go_upto_if 19 with (fail)
          go_cut [3] (fun v3 wc => ∃ (kq : Nat) (x3_8 : ByteArray), v3 = .string x3_8 ∧ Aside0 (semver_Version_String.j0 kq x3_8 a0_0 a0_1 a0_2 a0_3 a0_4 a0_5 = some r) ∧ Aside0 (kq ≤ k) ∧ Aside0 (wc.heap[gb245]? = some (.cells #[.int .u64 a0_0, .int .u64 a0_1, .int .u64 a0_2, .string a0_3, .string a0_4, .string a0_5] 69 (0, 0))) ∧ Aside0 (Below w.heap.size w wc))
          case first =>
            have H := HC9.out
            clear HC9
            by_cases c16 : a0_3.toList = ([] : List UInt8)
            · rw [if_pos c16] at H
              have c16b0 : (a0_3.toList == ([] : List UInt8)) = true := beq_iff_eq.mpr c16
              have c16e0 : (a0_3.toList).isEmpty = true := by rw [c16]; rfl
              have c16b1 : (a0_3.toList != ([] : List UInt8)) = false := bne_eq_false_iff_eq.mpr c16
              clear c16
              (first | rw [c16e0] | rw [c16b0] | (simp only [i64_w, i32_w]; rw [c16b0]) | skip)
              as_aux_lemma =>
                have H' := Aside0.mk H
                clear H
                go_wp2
                go_meet
                case rel => exact ⟨_, ((((t246 ++ (⟨#[46]⟩ : ByteArray)) ++ t247) ++ (⟨#[46]⟩ : ByteArray)) ++ t248), (by first | rfl | (simp only [bytesLe_not]; done) | (simp; done) | (simp [*]; done)), H', ⟨by first | omega | exact Nat.le_refl _⟩, ⟨by (with_reducible repeat (first | refine blk_drewN ?_ _ | refine blk_drew ?_ | refine blk_alloc ?_ _)); exact BK245.out⟩, ⟨by repeat (first | (with_reducible first | exact HB.out | apply below_alloc | apply pw_below_drewN | apply below_drew1 | refine below_set ?_ GE245.out) | exact HB.out)⟩⟩
            · rw [if_neg c16] at H
              have c16b0 : (a0_3.toList == ([] : List UInt8)) = false := beq_eq_false_iff_ne.mpr c16
              have c16e0 : (a0_3.toList).isEmpty = false := by cases hq_ : (a0_3.toList).isEmpty with | false => rfl | true => exact absurd (List.isEmpty_iff.mp hq_) c16
              have c16b1 : (a0_3.toList != ([] : List UInt8)) = true := bne_iff_ne.mpr c16
              (first | rw [c16e0] | rw [c16b0] | (simp only [i64_w, i32_w]; rw [c16b0]) | skip)
              by_cases c17 : 1 + a0_3.size ≤ 9223372036854775807
              · rw [if_pos c17] at H
                have c17b0 := eq_true c17
                have c17b1 : decide (1 + a0_3.size ≤ 9223372036854775807) = true := decide_eq_true c17
                try have c17b2 : (9223372036854775807 < 1 + a0_3.size) = False := eq_false (Nat.not_lt.2 c17)
                by_cases c18 : ((((t246 ++ (⟨#[46]⟩ : ByteArray)) ++ t247) ++ (⟨#[46]⟩ : ByteArray)) ++ t248).size + ((⟨#[45]⟩ : ByteArray) ++ a0_3).size ≤ 9223372036854775807
                · rw [if_pos c18] at H
                  have c18b0 := eq_true c18
                  have c18b1 : decide (((((t246 ++ (⟨#[46]⟩ : ByteArray)) ++ t247) ++ (⟨#[46]⟩ : ByteArray)) ++ t248).size + ((⟨#[45]⟩ : ByteArray) ++ a0_3).size ≤ 9223372036854775807) = true := decide_eq_true c18
                  try have c18b2 : (9223372036854775807 < ((((t246 ++ (⟨#[46]⟩ : ByteArray)) ++ t247) ++ (⟨#[46]⟩ : ByteArray)) ++ t248).size + ((⟨#[45]⟩ : ByteArray) ++ a0_3).size) = False := eq_false (Nat.not_lt.2 c18)
                  try have c18b4 := c18b2
                  try simp only [ByteArray.size_append, show (⟨#[46]⟩ : ByteArray).size = 1 from rfl, show (⟨#[45]⟩ : ByteArray).size = 1 from rfl, show (⟨#[43]⟩ : ByteArray).size = 1 from rfl] at c18b4
                  as_aux_lemma =>
                    have H' := Aside0.mk H
                    clear H
                    have hcz19_0 : w14.cell? ⟨gb245, 0, none⟩ = some (.int .u64 a0_0) := (blk_cell BK245.out 0).trans rfl
                    have hcz19_1 : w14.cell? ⟨gb245, 1, none⟩ = some (.int .u64 a0_1) := (blk_cell BK245.out 1).trans rfl
                    have hcz19_2 : w14.cell? ⟨gb245, 2, none⟩ = some (.int .u64 a0_2) := (blk_cell BK245.out 2).trans rfl
                    have hcz19_3 : w14.cell? ⟨gb245, 3, none⟩ = some (.string a0_3) := (blk_cell BK245.out 3).trans rfl
                    have hcz19_4 : w14.cell? ⟨gb245, 4, none⟩ = some (.string a0_4) := (blk_cell BK245.out 4).trans rfl
                    have hcz19_5 : w14.cell? ⟨gb245, 5, none⟩ = some (.string a0_5) := (blk_cell BK245.out 5).trans rfl
                    have hfz19_0 := blk_frozen BK245.out 0
                    have hfz19_1 := blk_frozen BK245.out 1
                    have hfz19_2 := blk_frozen BK245.out 2
                    have hfz19_3 := blk_frozen BK245.out 3
                    have hfz19_4 := blk_frozen BK245.out 4
                    have hfz19_5 := blk_frozen BK245.out 5
                    go_wp2
                    go_meet
                    case rel => exact ⟨_, (((((t246 ++ (⟨#[46]⟩ : ByteArray)) ++ t247) ++ (⟨#[46]⟩ : ByteArray)) ++ t248) ++ ((⟨#[45]⟩ : ByteArray) ++ a0_3)), (by first | rfl | (simp only [bytesLe_not]; done) | (simp; done) | (simp [*]; done)), H', ⟨by first | omega | exact Nat.le_refl _⟩, ⟨by (with_reducible repeat (first | refine blk_drewN ?_ _ | refine blk_drew ?_ | refine blk_alloc ?_ _)); exact BK245.out⟩, ⟨by repeat (first | (with_reducible first | exact HB.out | apply below_alloc | apply pw_below_drewN | apply below_drew1 | refine below_set ?_ GE245.out) | exact HB.out)⟩⟩
                · rw [if_neg c18] at H
                  exact absurd H (by simp)
              · rw [if_neg c17] at H
                exact absurd H (by simp)
          case rest =>
            clear HC9
            try clear c1
            try clear p2
            try clear c3
            try clear c3b0
            try clear c3b1
            try clear c3b2
            try clear c4
            try clear c5
            try clear c5b0
            try clear c5b1
            try clear c5b2
            try clear c6
            try clear c6b0
            try clear c6b1
            try clear c6b2
            try clear c8
            try clear c8b0
            try clear c8b1
            try clear c8b2
            try clear c16
            try clear c16b0
            try clear c16b1
            try clear c17
            try clear c17b0
            try clear c17b1
            try clear c17b2
            try clear c18
            try clear c18b0
            try clear c18b1
            try clear c18b2
            try clear hcz15_0
            try clear hcz15_1
            try clear hcz15_2
            try clear hcz15_3
            try clear hcz15_4
            try clear hcz15_5
            try clear hcz19_0
            try clear hcz19_1
            try clear hcz19_2
            try clear hcz19_3
            try clear hcz19_4
            try clear hcz19_5
            try clear hfz15_0
            try clear hfz15_1
            try clear hfz15_2
            try clear hfz15_3
            try clear hfz15_4
            try clear hfz15_5
            try clear hfz19_0
            try clear hfz19_1
            try clear hfz19_2
            try clear hfz19_3
            try clear hfz19_4
            try clear hfz19_5
            obtain ⟨kq, x3_8, rfl, HA, HJ8, BK245, HB⟩ := hcut
            cases kq with
            | zero => exact absurd HA.out (by simp [semver_Version_String.j0])
            | succ kj8 =>
              have H := HA.out
              clear HA
              simp only [semver_Version_String.j0] at H
              by_cases c20 : a0_4.toList = ([] : List UInt8)
              · rw [if_pos c20] at H
                have c20b0 : (a0_4.toList == ([] : List UInt8)) = true := beq_iff_eq.mpr c20
                have c20e0 : (a0_4.toList).isEmpty = true := by rw [c20]; rfl
                have c20b1 : (a0_4.toList != ([] : List UInt8)) = false := bne_eq_false_iff_eq.mpr c20
                clear c20
                as_aux_lemma =>
                  obtain rfl := Option.some.inj H
                  have hcz21_0 : wc.cell? ⟨gb245, 0, none⟩ = some (.int .u64 a0_0) := (blk_cell BK245.out 0).trans rfl
                  have hcz21_1 : wc.cell? ⟨gb245, 1, none⟩ = some (.int .u64 a0_1) := (blk_cell BK245.out 1).trans rfl
                  have hcz21_2 : wc.cell? ⟨gb245, 2, none⟩ = some (.int .u64 a0_2) := (blk_cell BK245.out 2).trans rfl
                  have hcz21_3 : wc.cell? ⟨gb245, 3, none⟩ = some (.string a0_3) := (blk_cell BK245.out 3).trans rfl
                  have hcz21_4 : wc.cell? ⟨gb245, 4, none⟩ = some (.string a0_4) := (blk_cell BK245.out 4).trans rfl
                  have hcz21_5 : wc.cell? ⟨gb245, 5, none⟩ = some (.string a0_5) := (blk_cell BK245.out 5).trans rfl
                  have hfz21_0 := blk_frozen BK245.out 0
                  have hfz21_1 := blk_frozen BK245.out 1
                  have hfz21_2 := blk_frozen BK245.out 2
                  have hfz21_3 := blk_frozen BK245.out 3
                  have hfz21_4 := blk_frozen BK245.out 4
                  have hfz21_5 := blk_frozen BK245.out 5
                  go_wp2
                  go_ret
                  exact ⟨by first | rfl | (simp [errW_none, errW_some] <;> rfl) | (simp [*, errW_none, errW_some] <;> rfl), by repeat (first | (with_reducible first | exact HB.out | apply below_alloc | apply pw_below_drewN | apply below_drew1 | refine below_set ?_ GE245.out) | exact HB.out)⟩
              · rw [if_neg c20] at H
                have c20b0 : (a0_4.toList == ([] : List UInt8)) = false := beq_eq_false_iff_ne.mpr c20
                have c20e0 : (a0_4.toList).isEmpty = false := by cases hq_ : (a0_4.toList).isEmpty with | false => rfl | true => exact absurd (List.isEmpty_iff.mp hq_) c20
                have c20b1 : (a0_4.toList != ([] : List UInt8)) = true := bne_iff_ne.mpr c20
                by_cases c22 : 1 + a0_4.size ≤ 9223372036854775807
                · rw [if_pos c22] at H
                  have c22b0 := eq_true c22
                  have c22b1 : decide (1 + a0_4.size ≤ 9223372036854775807) = true := decide_eq_true c22
                  try have c22b2 : (9223372036854775807 < 1 + a0_4.size) = False := eq_false (Nat.not_lt.2 c22)
                  by_cases c23 : x3_8.size + ((⟨#[43]⟩ : ByteArray) ++ a0_4).size ≤ 9223372036854775807
                  · rw [if_pos c23] at H
                    have c23b0 := eq_true c23
                    have c23b1 : decide (x3_8.size + ((⟨#[43]⟩ : ByteArray) ++ a0_4).size ≤ 9223372036854775807) = true := decide_eq_true c23
                    try have c23b2 : (9223372036854775807 < x3_8.size + ((⟨#[43]⟩ : ByteArray) ++ a0_4).size) = False := eq_false (Nat.not_lt.2 c23)
                    try have c23b4 := c23b2
                    try simp only [ByteArray.size_append, show (⟨#[46]⟩ : ByteArray).size = 1 from rfl, show (⟨#[45]⟩ : ByteArray).size = 1 from rfl, show (⟨#[43]⟩ : ByteArray).size = 1 from rfl] at c23b4
                    as_aux_lemma =>
                      obtain rfl := Option.some.inj H
                      have hcz24_0 : wc.cell? ⟨gb245, 0, none⟩ = some (.int .u64 a0_0) := (blk_cell BK245.out 0).trans rfl
                      have hcz24_1 : wc.cell? ⟨gb245, 1, none⟩ = some (.int .u64 a0_1) := (blk_cell BK245.out 1).trans rfl
                      have hcz24_2 : wc.cell? ⟨gb245, 2, none⟩ = some (.int .u64 a0_2) := (blk_cell BK245.out 2).trans rfl
                      have hcz24_3 : wc.cell? ⟨gb245, 3, none⟩ = some (.string a0_3) := (blk_cell BK245.out 3).trans rfl
                      have hcz24_4 : wc.cell? ⟨gb245, 4, none⟩ = some (.string a0_4) := (blk_cell BK245.out 4).trans rfl
                      have hcz24_5 : wc.cell? ⟨gb245, 5, none⟩ = some (.string a0_5) := (blk_cell BK245.out 5).trans rfl
                      have hfz24_0 := blk_frozen BK245.out 0
                      have hfz24_1 := blk_frozen BK245.out 1
                      have hfz24_2 := blk_frozen BK245.out 2
                      have hfz24_3 := blk_frozen BK245.out 3
                      have hfz24_4 := blk_frozen BK245.out 4
                      have hfz24_5 := blk_frozen BK245.out 5
                      go_wp2
                      go_ret
                      exact ⟨by first | rfl | (simp [errW_none, errW_some] <;> rfl) | (simp [*, errW_none, errW_some] <;> rfl), by repeat (first | (with_reducible first | exact HB.out | apply below_alloc | apply pw_below_drewN | apply below_drew1 | refine below_set ?_ GE245.out) | exact HB.out)⟩
                  · rw [if_neg c23] at H
                    exact absurd H (by simp)
                · rw [if_neg c22] at H
                  exact absurd H (by simp)
        · rw [if_neg c8] at H
          exact absurd H (by simp)
      · rw [if_neg c6] at H
        exact absurd H (by simp)
    · rw [if_neg c5] at H
      exact absurd H (by simp)
  · rw [if_neg c3] at H
    exact absurd H (by simp)

end Go.Proofs.YtlhijjfbcgconaaDoor.P

