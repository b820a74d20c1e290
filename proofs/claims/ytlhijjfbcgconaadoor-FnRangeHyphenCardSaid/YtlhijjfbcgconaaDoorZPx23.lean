-- WRITTEN by xprint.py (a program of this session, over the kit's print) out of the translation. Not trusted: Lean checks it.
import Derived.Test.YtlhijjfbcgconaaDoorZPx0
namespace Go.Proofs.YtlhijjfbcgconaaDoor.P
open Go.RowKit Go.Proofs.YtlhijjfbcgconaaDoorW.PrintWords Go.Proofs.YtlhijjfbcgconaaDoorW.PrintLast Go.Proofs.YtlhijjfbcgconaaDoorW.PrintMore
attribute [local go_sem] max2_int min2_int max_two min_two max_three min_three max_four min_four run_store_float   -- for this text's walks alone
set_option linter.unusedVariables false
set_option linter.unusedSimpArgs false

-- NOT PRINTED: function 19 (impl_SemverNext)

theorem u8_dec_ (t : Int) : IntKind.u8.wrap (48 + IntKind.u8.wrap t) = (48 + t) % 256 := by
  simp only [IntKind.wrap, IntKind.bits, IntKind.signed]
  have h : (2 : Int) ^ 8 = 256 := by decide
  simp [h]
/-! ### spec_decimal16: function 47 -/
def spec_decimal16.f : Nat → Int → Option (ByteArray)
  | 0, _ => none
  | k + 1, a0 => if a0 < 10 then (some (strOfNums (([(48 + ((a0) % 256)) % 256] : List Int)))) else ((spec_decimal16.f k (IntKind.u64.wrap (Int.tdiv a0 10))).bind fun t263 => ((some (([(48 + ((Int.tmod a0 10) % 256)) % 256] : List Int) : List Int)).bind fun y264 => (if t263.size + (strOfNums y264).size ≤ 9223372036854775807 then (some (t263 ++ (strOfNums y264))) else (none))))
theorem spec_decimal16.mono_l : ∀ k, (∀ y0, LeO (spec_decimal16.f k y0) (spec_decimal16.f (k + 1) y0))
  | 0 => fun _ r h => by simp [spec_decimal16.f] at h
  | k + 1 => by
    have ih0 := spec_decimal16.mono_l k
    · intro y0
      unfold spec_decimal16.f
      repeat' first
      | (with_reducible exact ih0 _)
      | (with_reducible exact LeO.refl _)
      | (with_reducible exact LeO.none _)
      | (with_reducible refine LeO.ite ?_ ?_)
      | (with_reducible refine LeO.bind ?_ (fun _ => ?_))
      | exact ih0 _
      | exact LeO.none _
      | refine LeO.ite ?_ ?_
      | refine LeO.bind ?_ (fun _ => ?_)
theorem spec_decimal16.mono : ∀ a0 k, LeO (spec_decimal16.f k a0) (spec_decimal16.f (k + 1) a0) := by
  intro a0 k
  have ih0 := spec_decimal16.mono_l k
  exact ih0 a0
def spec_decimal16.T3 : Bool × List (List Nat × List Nat) := (true, [([], []), ([0], [0]), ([1], [1]), ([], []), ([3], [3]), ([4], [4]), ([5], [5]), ([6], [6]), ([7], [7]), ([2, 8], [2, 8]), ([9, 2, 0, 1, 2, 3, 4, 5, 6, 7, 8, 9], [9])])
def spec_decimal16.B3 : List Nat := [0, 1, 3, 0, 8, 24, 56, 120, 248, 511, 1023]
theorem spec_decimal16.tab3 : rtab .any (opsOf Tryd.f47 3) = spec_decimal16.T3 := by kernel_rfl
theorem spec_decimal16.bits3 : waitsOk spec_decimal16.T3.2 spec_decimal16.B3 = true := by kernel_rfl
set_option maxHeartbeats 8000000 in
set_option maxRecDepth 100000 in
theorem spec_decimal16.calls (k : Nat) : ∀ (a0 : Int) (r : ByteArray) (w : World) (h : spec_decimal16.f k a0 = some r),
    Calls Tryd.prog 47 #[.int .u64 a0] w fun e w' => e = .returned (.string r) ∧ Below w.heap.size w w' := by
  induction k using Nat.strongRecOn with
  | _ k ih =>
  intro a0 r w h
  cases k with
  | zero => exact absurd h (by simp [spec_decimal16.f])
  | succ k =>
  simp only [spec_decimal16.f] at h
  have HB := Aside0.mk (Below.refl w.heap.size w)
  have H : (if a0 < 10 then (some (strOfNums (([(48 + ((a0) % 256)) % 256] : List Int)))) else ((spec_decimal16.f k (IntKind.u64.wrap (Int.tdiv a0 10))).bind fun t263 => ((some (([(48 + ((Int.tmod a0 10) % 256)) % 256] : List Int) : List Int)).bind fun y264 => (if t263.size + (strOfNums y264).size ≤ 9223372036854775807 then (some (t263 ++ (strOfNums y264))) else (none))))) = some r := h
  clear h
  by_cases c2 : a0 < 10
  · rw [if_pos c2] at H
    have c2b0 : decide (a0 < 10) = true := decide_eq_true c2
    clear c2
    obtain ⟨y260, hy260⟩ : ∃ y_ : List Int, y_ = (([(48 + ((a0) % 256)) % 256] : List Int)) := ⟨_, rfl⟩
    replace H : (some (strOfNums y260)) = some r := by first | (rw [hy260]; with_reducible exact H) | (have H2_ := (Option.bind_some _ _).symm.trans H; rw [hy260]; with_reducible exact H2_) | (have H2_ := (Option.bind_some _ _).symm.trans H; with_reducible exact H2_) | with_reducible exact H | (rw [hy260]; exact H) | exact H
    have Ny260 := Aside0.mk hy260
    clear hy260
    as_aux_lemma =>
      obtain rfl := Option.some.inj H
      go_enter Tryd.func47, Tryd.ntmps47
      go_wp2_with (first | ((with_reducible refine gate_dst (N := 8) rfl ?_); refine Kd.R_lit (Kd.int .u8) _ 5 ?hg (N := 8) ?hd (xs := ([(48 + ((a0) % 256)) % 256] : List Int)) (inner := [.int .u8 ((48 + ((a0) % 256)) % 256)]) (ok := fun _ => True) (okp := fun _ => True) ?hr ?hp (fun _ hk => hk) trivial (Below.refl _ _) (Nat.le_refl _) (by simp) ?_; (case hd => rfl); (case hg => rfl); (case hr => first | (go_simp; done) | (go_simp; rfl) | (go_simp; simp only [u8_dec_]; done) | (go_simp; simp only [u8_dec_]; rfl) | (rw [← u8_dec_]; go_simp; done)); (case hp => exact (Reps.one (show Kd.M (Kd.int .u8) _ _ _ ((48 + ((a0) % 256)) % 256) [.int .u8 ((48 + ((a0) % 256)) % 256)] from rfl) (Reps.none _ _))); intro v261 w3 ho4 hb hg_ hnew_; clear hg_ hnew_; (first | rw [← Ny260.out] at ho4 | (simp only [Int.reduceToNat] at ho4; rw [← Ny260.out] at ho4)); have n0_ := Aside0.mk (Kd.R_lower ho4 (below_size (by repeat (first | (with_reducible first | exact HB.out | apply below_alloc | apply pw_below_drewN | apply below_drew1) | exact HB.out)))); have n1_ := Aside0.mk (below_step (by repeat (first | (with_reducible first | exact HB.out | apply below_alloc | apply pw_below_drewN | apply below_drew1) | exact HB.out)) hb); clear HB; have HO262 := n0_; have HB := n1_; clear n0_ n1_; clear hb ho4; have hcv5 := own_string (P := Tryd.prog) Tryd.underlying83 Tryd.underlying5 Tryd.underlying9 (Kd.own_of_R HO262.out)))
      go_ret
      exact ⟨by first | rfl | (simp [errW_none, errW_some] <;> rfl) | (simp [*, errW_none, errW_some] <;> rfl), by repeat (first | (with_reducible first | exact HB.out | apply below_alloc | apply pw_below_drewN | apply below_drew1) | exact HB.out)⟩
  · rw [if_neg c2] at H
    have c2b0 : decide (a0 < 10) = false := decide_eq_false c2
    clear c2
    replace H := Option.bind_eq_some_iff.mp H
    obtain ⟨t263, A60, H⟩ := H
    replace H : ((some (([(48 + ((Int.tmod a0 10) % 256)) % 256] : List Int) : List Int)).bind fun y264 => (if t263.size + (strOfNums y264).size ≤ 9223372036854775807 then (some (t263 ++ (strOfNums y264))) else (none))) = some r := H
    have A6 := Aside0.mk A60
    clear A60
    obtain ⟨y264, hy264⟩ : ∃ y_ : List Int, y_ = (([(48 + ((Int.tmod a0 10) % 256)) % 256] : List Int)) := ⟨_, rfl⟩
    replace H : (if t263.size + (strOfNums y264).size ≤ 9223372036854775807 then (some (t263 ++ (strOfNums y264))) else (none)) = some r := by first | (rw [hy264]; with_reducible exact H) | (have H2_ := (Option.bind_some _ _).symm.trans H; rw [hy264]; with_reducible exact H2_) | (have H2_ := (Option.bind_some _ _).symm.trans H; with_reducible exact H2_) | with_reducible exact H | (rw [hy264]; exact H) | exact H
    have Ny264 := Aside0.mk hy264
    clear hy264
    by_cases c7 : t263.size + (strOfNums y264).size ≤ 9223372036854775807
    · rw [if_pos c7] at H
      have c7b0 := eq_true c7
      have c7b1 : decide (t263.size + (strOfNums y264).size ≤ 9223372036854775807) = true := decide_eq_true c7
      try have c7b2 : (9223372036854775807 < t263.size + (strOfNums y264).size) = False := eq_false (Nat.not_lt.2 c7)
      as_aux_lemma =>
        obtain rfl := Option.some.inj H
        go_enter Tryd.func47, Tryd.ntmps47
        try go_wp2
        have n0_ := Aside0.mk (below_drew1 HB.out)
        clear HB
        have HB := n0_
        clear n0_
        refine start_ (n := 11) (S := fun w' => True) (ds := []) #[false, false, false, false, false, false, false, false, false, false, false] (by kernel_rfl) rfl rfl trivial (fun hHeld => ?_); refine with_tabW spec_decimal16.tab3 spec_decimal16.bits3 (fun HT_ HW_ => ?_)
        generalize w.drew = w8 at HB hHeld ⊢
        refine pure_ (i := 0) (N := some 10) (v := ?_) (a' := ?_) #[true, false, false, false, false, false, false, false, false, false, false] rfl rfl (any_of HT_.out (by kernel_rfl)) (fun _ _ _ h => h) (Or.inl ⟨by rfl, ?_⟩) ?_ ?_
        rotate_left
        · intro w'
          go_simp
          with_reducible rfl
        rotate_left
        · simp only [Act.put, List.setIfInBounds_toArray, List.set_cons_zero, List.set_cons_succ, i64_w, i32_w]
          rfl
        refine pure_ (i := 1) (N := some 11) (v := ?_) (a' := ?_) #[true, true, false, false, false, false, false, false, false, false, false] rfl rfl (any_of HT_.out (by kernel_rfl)) (fun _ _ _ h => h) (Or.inl ⟨by rfl, ?_⟩) ?_ ?_
        rotate_left
        · intro w'
          go_simp
          with_reducible rfl
        rotate_left
        · simp only [Act.put, List.setIfInBounds_toArray, List.set_cons_zero, List.set_cons_succ, i64_w, i32_w]
          rfl
        refine pure_ (i := 3) (N := some 13) (v := ?_) (a' := ?_) #[true, true, false, true, false, false, false, false, false, false, false] rfl rfl (any_of HT_.out (by kernel_rfl)) (fun _ _ _ h => h) (Or.inl ⟨by rfl, ?_⟩) ?_ ?_
        rotate_left
        · intro w'
          go_simp
          with_reducible rfl
        rotate_left
        · simp only [Act.put, List.setIfInBounds_toArray, List.set_cons_zero, List.set_cons_succ, i64_w, i32_w]
          rfl
        refine pure_ (i := 4) (N := some 14) (v := ?_) (a' := ?_) #[true, true, false, true, true, false, false, false, false, false, false] rfl rfl (any_of HT_.out (by kernel_rfl)) (fun _ _ _ h => h) (Or.inl ⟨by rfl, ?_⟩) ?_ ?_
        rotate_left
        · intro w'
          go_simp
          with_reducible rfl
        rotate_left
        · simp only [Act.put, List.setIfInBounds_toArray, List.set_cons_zero, List.set_cons_succ, i64_w, i32_w]
          rfl
        refine pure_ (i := 5) (N := some 15) (v := ?_) (a' := ?_) #[true, true, false, true, true, true, false, false, false, false, false] rfl rfl (any_of HT_.out (by kernel_rfl)) (fun _ _ _ h => h) (Or.inl ⟨by rfl, ?_⟩) ?_ ?_
        rotate_left
        · intro w'
          go_simp
          with_reducible rfl
        rotate_left
        · simp only [Act.put, List.setIfInBounds_toArray, List.set_cons_zero, List.set_cons_succ, i64_w, i32_w]
          rfl
        refine pure_ (i := 6) (N := some 16) (v := ?_) (a' := ?_) #[true, true, false, true, true, true, true, false, false, false, false] rfl rfl (any_of HT_.out (by kernel_rfl)) (fun _ _ _ h => h) (Or.inl ⟨by rfl, ?_⟩) ?_ ?_
        rotate_left
        · intro w'
          go_simp
          with_reducible rfl
        rotate_left
        · simp only [Act.put, List.setIfInBounds_toArray, List.set_cons_zero, List.set_cons_succ, i64_w, i32_w]
          rfl
        refine join_ (σ := Value) 2 #[true, true, true, true, true, true, true, true, true, false, false] (fun s_ => [(12, .string t263), (17, s_), (18, .string (strOfNums y264))]) (fun s_ w' => (Kd.R (Kd.int .u8) 5 w' w.heap.size (fun _ => True) s_ y264) ∧ (Below w.heap.size w w')) ?_ ?_
        rotate_left
        · intro hCont
          refine two_ (i := 2) (j := 7) (Ni := some 12) (Nj := some 17) #[true, true, true, true, true, true, true, false, false, false, false] #[true, true, false, true, true, true, true, true, false, false, false] rfl rfl rfl rfl (two_of HT_.out (by kernel_rfl)) (by decide) (by decide) (fun K hK => ?_) (fun K hK => ?_)
          · skip
            refine goes_ Tryd.func47 (by kernel_rfl) rfl #[.int .u64 (IntKind.u64.wrap (Int.tdiv a0 10))] (by rfl) rfl rfl (by (try simp only [List.map_toArray, List.map_cons, List.map_nil]); first | done | rfl | (simp only [List.length_drop, List.length_take]; rfl)) ?_
            with_reducible refine (ih k (by omega) (IntKind.u64.wrap (Int.tdiv a0 10)) t263 _ A6.out).mono ?_
            rintro e w9 ⟨rfl, hb⟩
            refine ⟨_, rfl, ?_⟩
            have n0_ := Aside0.mk (below_step (by repeat (first | (with_reducible first | exact HB.out | apply below_alloc | apply pw_below_drewN | apply below_drew1) | exact HB.out)) hb)
            clear HB
            have HB := n0_
            clear n0_
            (try clear hb)
            (try clear hb2)
            (try clear hk)
            (try clear hi)
            refine hK.out _ _ trivial (fun hHeld => ?_)
            clear hK K
            refine norm_ (a' := ?_) ?_ ?_
            rotate_left
            · show Act.put _ (some 12) _ = _
              simp only [Act.put, List.setIfInBounds_toArray, List.set_cons_zero, List.set_cons_succ, i64_w, i32_w]
              rfl
            refine one_ (i := 7) (N := some 17) #[true, true, true, true, true, true, true, true, false, false, false] rfl rfl (one_of HT_.out (by kernel_rfl)) (by decide) (fun K hK => ?_)
            refine Kd.R_lit_step (Kd.int .u8) _ 5 ?hg (N := 17) ?hd (xs := ([(48 + ((Int.tmod a0 10) % 256)) % 256] : List Int)) (inner := [.int .u8 ((48 + ((Int.tmod a0 10) % 256)) % 256)]) (ok := fun _ => True) (okp := fun _ => True) ?hr ?hp (fun _ hk => hk) trivial (Below.refl _ _) (Nat.le_refl _) (by simp) ?_; (case hd => rfl); (case hg => rfl); (case hr => first | (go_simp; done) | (go_simp; rfl) | (go_simp; simp only [u8_dec_]; done) | (go_simp; simp only [u8_dec_]; rfl) | (rw [← u8_dec_]; go_simp; done)); (case hp => exact (Reps.one (show Kd.M (Kd.int .u8) _ _ _ ((48 + ((Int.tmod a0 10) % 256)) % 256) [.int .u8 ((48 + ((Int.tmod a0 10) % 256)) % 256)] from rfl) (Reps.none _ _)))
            intro v265 w10 ho11 hb hg_ hnew_
            clear hg_ hnew_
            (first | rw [← Ny264.out] at ho11 | (simp only [Int.reduceToNat] at ho11; rw [← Ny264.out] at ho11))
            have n0_ := Aside0.mk (Kd.R_lower ho11 (below_size (by repeat (first | (with_reducible first | exact HB.out | apply below_alloc | apply pw_below_drewN | apply below_drew1) | exact HB.out))))
            have n1_ := Aside0.mk (below_step (by repeat (first | (with_reducible first | exact HB.out | apply below_alloc | apply pw_below_drewN | apply below_drew1) | exact HB.out)) hb)
            clear HB
            have HO266 := n0_
            have HB := n1_
            clear n0_ n1_
            clear hb ho11
            refine hK.out _ _ trivial (fun hHeld => ?_)
            clear hK K
            refine norm_ (a' := ?_) ?_ ?_
            rotate_left
            · show Act.put _ (some 17) _ = _
              simp only [Act.put, List.setIfInBounds_toArray, List.set_cons_zero, List.set_cons_succ, i64_w, i32_w]
              rfl
            refine one_ (i := 8) (N := some 18) #[true, true, true, true, true, true, true, true, true, false, false] rfl rfl (one_of HT_.out (by kernel_rfl)) (by decide) (fun K hK => ?_)
            have hcv12 := own_string (P := Tryd.prog) Tryd.underlying83 Tryd.underlying5 Tryd.underlying9 (Kd.own_of_R HO266.out)
            refine value_ (w1 := ?_) (v := ?_) (by rfl) rfl ?_ ?_
            rotate_left 2
            · go_simp
              constructor
              · rfl
              · rfl
            clear hcv12
            refine hK.out _ _ trivial (fun hHeld => ?_)
            clear hK K
            refine norm_ (a' := ?_) ?_ ?_
            rotate_left
            · show Act.put _ (some 18) _ = _
              simp only [Act.put, List.setIfInBounds_toArray, List.set_cons_zero, List.set_cons_succ, i64_w, i32_w]
              rfl
            exact norm_ (by simp only [putAll, Act.put, List.setIfInBounds_toArray, List.set_cons_zero, List.set_cons_succ]) (hCont (v265) _ ⟨(by (with_reducible repeat (first | apply Kd.R_alloc | apply Kd.R_drewN | apply Kd.R_drew)); exact HO266.out), (by repeat (first | (with_reducible first | exact HB.out | apply below_alloc | apply pw_below_drewN | apply below_drew1) | exact HB.out))⟩)
          · skip
            refine Kd.R_lit_step (Kd.int .u8) _ 5 ?hg (N := 17) ?hd (xs := ([(48 + ((Int.tmod a0 10) % 256)) % 256] : List Int)) (inner := [.int .u8 ((48 + ((Int.tmod a0 10) % 256)) % 256)]) (ok := fun _ => True) (okp := fun _ => True) ?hr ?hp (fun _ hk => hk) trivial (Below.refl _ _) (Nat.le_refl _) (by simp) ?_; (case hd => rfl); (case hg => rfl); (case hr => first | (go_simp; done) | (go_simp; rfl) | (go_simp; simp only [u8_dec_]; done) | (go_simp; simp only [u8_dec_]; rfl) | (rw [← u8_dec_]; go_simp; done)); (case hp => exact (Reps.one (show Kd.M (Kd.int .u8) _ _ _ ((48 + ((Int.tmod a0 10) % 256)) % 256) [.int .u8 ((48 + ((Int.tmod a0 10) % 256)) % 256)] from rfl) (Reps.none _ _)))
            intro v265 w9 ho10 hb hg_ hnew_
            clear hg_ hnew_
            (first | rw [← Ny264.out] at ho10 | (simp only [Int.reduceToNat] at ho10; rw [← Ny264.out] at ho10))
            have n0_ := Aside0.mk (Kd.R_lower ho10 (below_size (by repeat (first | (with_reducible first | exact HB.out | apply below_alloc | apply pw_below_drewN | apply below_drew1) | exact HB.out))))
            have n1_ := Aside0.mk (below_step (by repeat (first | (with_reducible first | exact HB.out | apply below_alloc | apply pw_below_drewN | apply below_drew1) | exact HB.out)) hb)
            clear HB
            have HO266 := n0_
            have HB := n1_
            clear n0_ n1_
            clear hb ho10
            refine hK.out _ _ trivial (fun hHeld => ?_)
            clear hK K
            refine norm_ (a' := ?_) ?_ ?_
            rotate_left
            · show Act.put _ (some 17) _ = _
              simp only [Act.put, List.setIfInBounds_toArray, List.set_cons_zero, List.set_cons_succ, i64_w, i32_w]
              rfl
            refine two_ (i := 2) (j := 8) (Ni := some 12) (Nj := some 18) #[true, true, true, true, true, true, true, true, false, false, false] #[true, true, false, true, true, true, true, true, true, false, false] rfl rfl rfl rfl (two_of HT_.out (by kernel_rfl)) (by decide) (by decide) (fun K hK => ?_) (fun K hK => ?_)
            · skip
              refine goes_ Tryd.func47 (by kernel_rfl) rfl #[.int .u64 (IntKind.u64.wrap (Int.tdiv a0 10))] (by rfl) rfl rfl (by (try simp only [List.map_toArray, List.map_cons, List.map_nil]); first | done | rfl | (simp only [List.length_drop, List.length_take]; rfl)) ?_
              with_reducible refine (ih k (by omega) (IntKind.u64.wrap (Int.tdiv a0 10)) t263 _ A6.out).mono ?_
              rintro e w11 ⟨rfl, hb⟩
              refine ⟨_, rfl, ?_⟩
              have n0_ := Aside0.mk (Kd.R_below (by (with_reducible repeat (first | apply Kd.R_alloc | apply Kd.R_drewN | apply Kd.R_drew)); exact HO266.out) hb)
              have n1_ := Aside0.mk (below_step (by repeat (first | (with_reducible first | exact HB.out | apply below_alloc | apply pw_below_drewN | apply below_drew1) | exact HB.out)) hb)
              clear HO266
              clear HB
              have HO266 := n0_
              have HB := n1_
              clear n0_ n1_
              (try clear hb)
              (try clear hb2)
              (try clear hk)
              (try clear hi)
              refine hK.out _ _ trivial (fun hHeld => ?_)
              clear hK K
              refine norm_ (a' := ?_) ?_ ?_
              rotate_left
              · show Act.put _ (some 12) _ = _
                simp only [Act.put, List.setIfInBounds_toArray, List.set_cons_zero, List.set_cons_succ, i64_w, i32_w]
                rfl
              refine one_ (i := 8) (N := some 18) #[true, true, true, true, true, true, true, true, true, false, false] rfl rfl (one_of HT_.out (by kernel_rfl)) (by decide) (fun K hK => ?_)
              have hcv12 := own_string (P := Tryd.prog) Tryd.underlying83 Tryd.underlying5 Tryd.underlying9 (Kd.own_of_R HO266.out)
              refine value_ (w1 := ?_) (v := ?_) (by rfl) rfl ?_ ?_
              rotate_left 2
              · go_simp
                constructor
                · rfl
                · rfl
              clear hcv12
              refine hK.out _ _ trivial (fun hHeld => ?_)
              clear hK K
              refine norm_ (a' := ?_) ?_ ?_
              rotate_left
              · show Act.put _ (some 18) _ = _
                simp only [Act.put, List.setIfInBounds_toArray, List.set_cons_zero, List.set_cons_succ, i64_w, i32_w]
                rfl
              exact norm_ (by simp only [putAll, Act.put, List.setIfInBounds_toArray, List.set_cons_zero, List.set_cons_succ]) (hCont (v265) _ ⟨(by (with_reducible repeat (first | apply Kd.R_alloc | apply Kd.R_drewN | apply Kd.R_drew)); exact HO266.out), (by repeat (first | (with_reducible first | exact HB.out | apply below_alloc | apply pw_below_drewN | apply below_drew1) | exact HB.out))⟩)
            · skip
              have hcv11 := own_string (P := Tryd.prog) Tryd.underlying83 Tryd.underlying5 Tryd.underlying9 (Kd.own_of_R HO266.out)
              refine value_ (w1 := ?_) (v := ?_) (by rfl) rfl ?_ ?_
              rotate_left 2
              · go_simp
                constructor
                · rfl
                · rfl
              clear hcv11
              refine hK.out _ _ trivial (fun hHeld => ?_)
              clear hK K
              refine norm_ (a' := ?_) ?_ ?_
              rotate_left
              · show Act.put _ (some 18) _ = _
                simp only [Act.put, List.setIfInBounds_toArray, List.set_cons_zero, List.set_cons_succ, i64_w, i32_w]
                rfl
              refine one_ (i := 2) (N := some 12) #[true, true, true, true, true, true, true, true, true, false, false] rfl rfl (one_of HT_.out (by kernel_rfl)) (by decide) (fun K hK => ?_)
              refine goes_ Tryd.func47 (by kernel_rfl) rfl #[.int .u64 (IntKind.u64.wrap (Int.tdiv a0 10))] (by rfl) rfl rfl (by (try simp only [List.map_toArray, List.map_cons, List.map_nil]); first | done | rfl | (simp only [List.length_drop, List.length_take]; rfl)) ?_
              with_reducible refine (ih k (by omega) (IntKind.u64.wrap (Int.tdiv a0 10)) t263 _ A6.out).mono ?_
              rintro e w12 ⟨rfl, hb⟩
              refine ⟨_, rfl, ?_⟩
              have n0_ := Aside0.mk (Kd.R_below (by (with_reducible repeat (first | apply Kd.R_alloc | apply Kd.R_drewN | apply Kd.R_drew)); exact HO266.out) hb)
              have n1_ := Aside0.mk (below_step (by repeat (first | (with_reducible first | exact HB.out | apply below_alloc | apply pw_below_drewN | apply below_drew1) | exact HB.out)) hb)
              clear HO266
              clear HB
              have HO266 := n0_
              have HB := n1_
              clear n0_ n1_
              (try clear hb)
              (try clear hb2)
              (try clear hk)
              (try clear hi)
              refine hK.out _ _ trivial (fun hHeld => ?_)
              clear hK K
              refine norm_ (a' := ?_) ?_ ?_
              rotate_left
              · show Act.put _ (some 12) _ = _
                simp only [Act.put, List.setIfInBounds_toArray, List.set_cons_zero, List.set_cons_succ, i64_w, i32_w]
                rfl
              exact norm_ (by simp only [putAll, Act.put, List.setIfInBounds_toArray, List.set_cons_zero, List.set_cons_succ]) (hCont (v265) _ ⟨(by (with_reducible repeat (first | apply Kd.R_alloc | apply Kd.R_drewN | apply Kd.R_drew)); exact HO266.out), (by repeat (first | (with_reducible first | exact HB.out | apply below_alloc | apply pw_below_drewN | apply below_drew1) | exact HB.out))⟩)
        rintro v265 w13 ⟨h0_, h1_⟩
        have n0_ : Aside0 (Kd.R (Kd.int .u8) 5 w13 w.heap.size (fun _ => True) v265 y264) := ⟨h0_⟩
        have n1_ : Aside0 (Below w.heap.size w w13) := ⟨h1_⟩
        clear HB
        clear h0_ h1_
        have HO266 := n0_
        have HB := n1_
        clear n0_ n1_
        have hHeld := trivial
        refine norm_ (a' := ?_) ?_ ?_
        rotate_left
        · simp only [putAll, Act.put, List.setIfInBounds_toArray, List.set_cons_zero, List.set_cons_succ]
          rfl
        refine pure_ (i := 9) (N := some 19) (v := ?_) (a' := ?_) #[true, true, true, true, true, true, true, true, true, true, false] rfl rfl (any_of HT_.out (by kernel_rfl)) (fun _ _ _ h => h) (Or.inl ⟨by rfl, ?_⟩) ?_ ?_
        rotate_left
        · intro w'
          go_simp
          with_reducible rfl
        rotate_left
        · simp only [Act.put, List.setIfInBounds_toArray, List.set_cons_zero, List.set_cons_succ, i64_w, i32_w]
          rfl
        refine pure_ (i := 10) (N := some 2) (v := ?_) (a' := ?_) #[true, true, true, true, true, true, true, true, true, true, true] rfl rfl (any_of HT_.out (by kernel_rfl)) (fun _ _ _ h => h) (Or.inl ⟨by rfl, ?_⟩) ?_ ?_
        rotate_left
        · intro w'
          go_simp
          with_reducible rfl
        rotate_left
        · simp only [Act.put, List.setIfInBounds_toArray, List.set_cons_zero, List.set_cons_succ, i64_w, i32_w]
          rfl
        refine done_ (done_of HT_.out (by kernel_rfl)) ?_
        try go_wp2
        go_ret
        exact ⟨by first | rfl | (simp [errW_none, errW_some] <;> rfl) | (simp [*, errW_none, errW_some] <;> rfl), by repeat (first | (with_reducible first | exact HB.out | apply below_alloc | apply pw_below_drewN | apply below_drew1) | exact HB.out)⟩
    · rw [if_neg c7] at H
      exact absurd H (by simp)

/-! ### spec_TextOf: function 20 -/
def spec_TextOf.j0 : Nat → ByteArray → Int → Int → Int → ByteArray → ByteArray → Option (ByteArray)
  | 0, _, _, _, _, _, _ => none
  | k + 1, x3, x268000, x268001, x268002, x268003, x268004 => if x268004.toList = ([] : List UInt8) then (some x3) else (if 1 + x268004.size ≤ 9223372036854775807 then (if x3.size + ((⟨#[43]⟩ : ByteArray) ++ x268004).size ≤ 9223372036854775807 then (some (x3 ++ ((⟨#[43]⟩ : ByteArray) ++ x268004))) else (none)) else (none))
def spec_TextOf.f (k : Nat) (a0_0 : Int) (a0_1 : Int) (a0_2 : Int) (a0_3 : ByteArray) (a0_4 : ByteArray) : Option (ByteArray) := (spec_decimal16.f k a0_0).bind fun t268 => (if t268.size + 1 ≤ 9223372036854775807 then ((spec_decimal16.f k a0_1).bind fun t269 => (if (t268 ++ (⟨#[46]⟩ : ByteArray)).size + t269.size ≤ 9223372036854775807 then (if ((t268 ++ (⟨#[46]⟩ : ByteArray)) ++ t269).size + 1 ≤ 9223372036854775807 then ((spec_decimal16.f k a0_2).bind fun t270 => (if (((t268 ++ (⟨#[46]⟩ : ByteArray)) ++ t269) ++ (⟨#[46]⟩ : ByteArray)).size + t270.size ≤ 9223372036854775807 then (if a0_3.toList = ([] : List UInt8) then (spec_TextOf.j0 k ((((t268 ++ (⟨#[46]⟩ : ByteArray)) ++ t269) ++ (⟨#[46]⟩ : ByteArray)) ++ t270) a0_0 a0_1 a0_2 a0_3 a0_4) else (if 1 + a0_3.size ≤ 9223372036854775807 then (if ((((t268 ++ (⟨#[46]⟩ : ByteArray)) ++ t269) ++ (⟨#[46]⟩ : ByteArray)) ++ t270).size + ((⟨#[45]⟩ : ByteArray) ++ a0_3).size ≤ 9223372036854775807 then (spec_TextOf.j0 k (((((t268 ++ (⟨#[46]⟩ : ByteArray)) ++ t269) ++ (⟨#[46]⟩ : ByteArray)) ++ t270) ++ ((⟨#[45]⟩ : ByteArray) ++ a0_3)) a0_0 a0_1 a0_2 a0_3 a0_4) else (none)) else (none))) else (none))) else (none)) else (none))) else (none))
theorem spec_TextOf.mono_l : ∀ k, (∀ y0 y1 y2 y3 y4 y5, LeO (spec_TextOf.j0 k y0 y1 y2 y3 y4 y5) (spec_TextOf.j0 (k + 1) y0 y1 y2 y3 y4 y5))
  | 0 => fun _ _ _ _ _ _ r h => by simp [spec_TextOf.j0] at h
  | k + 1 => by
    have ih0 := spec_TextOf.mono_l k
    · intro y0 y1 y2 y3 y4 y5
      unfold spec_TextOf.j0
      repeat' first
      | (with_reducible exact ih0 _ _ _ _ _ _)
      | (with_reducible exact spec_decimal16.mono _ _)
      | (with_reducible exact LeO.refl _)
      | (with_reducible exact LeO.none _)
      | (with_reducible refine LeO.ite ?_ ?_)
      | (with_reducible refine LeO.bind ?_ (fun _ => ?_))
      | exact ih0 _ _ _ _ _ _
      | exact spec_decimal16.mono _ _
      | exact LeO.none _
      | refine LeO.ite ?_ ?_
      | refine LeO.bind ?_ (fun _ => ?_)
theorem spec_TextOf.mono : ∀ a0 a1 a2 a3 a4 k, LeO (spec_TextOf.f k a0 a1 a2 a3 a4) (spec_TextOf.f (k + 1) a0 a1 a2 a3 a4) := by
  intro a0 a1 a2 a3 a4 k
  have ih0 := spec_TextOf.mono_l k
  unfold spec_TextOf.f
  repeat' first
      | (with_reducible exact ih0 _ _ _ _ _ _)
      | (with_reducible exact spec_decimal16.mono _ _)
      | (with_reducible exact LeO.refl _)
      | (with_reducible exact LeO.none _)
      | (with_reducible refine LeO.ite ?_ ?_)
      | (with_reducible refine LeO.bind ?_ (fun _ => ?_))
      | exact ih0 _ _ _ _ _ _
      | exact spec_decimal16.mono _ _
      | exact LeO.none _
      | refine LeO.ite ?_ ?_
      | refine LeO.bind ?_ (fun _ => ?_)
def spec_TextOf.T1 : Bool × List (List Nat × List Nat) := (true, [([], []), ([0], [0]), ([1], [1]), ([2], [2]), ([], []), ([4], [4]), ([5, 2], [5]), ([3, 6], [3, 6]), ([7], [7]), ([], []), ([9], [9]), ([10, 6], [10]), ([8, 11], [8, 11]), ([12, 11, 0, 1, 2, 3, 4, 5, 6, 7, 8, 9, 10, 11, 12], [12])])
def spec_TextOf.B1 : List Nat := [0, 1, 3, 7, 0, 16, 55, 127, 255, 0, 512, 1655, 4095, 8191]
theorem spec_TextOf.tab1 : rtab .any (opsOf Tryd.f20 1) = spec_TextOf.T1 := by kernel_rfl
theorem spec_TextOf.bits1 : waitsOk spec_TextOf.T1.2 spec_TextOf.B1 = true := by kernel_rfl
set_option maxHeartbeats 8000000 in
set_option maxRecDepth 100000 in
theorem spec_TextOf.calls (k : Nat) (a0_0 : Int) (a0_1 : Int) (a0_2 : Int) (a0_3 : ByteArray) (a0_4 : ByteArray) (r : ByteArray) (w : World) (h : spec_TextOf.f k a0_0 a0_1 a0_2 a0_3 a0_4 = some r) :
    Calls Tryd.prog 20 #[.agg #[.int .u64 a0_0, .int .u64 a0_1, .int .u64 a0_2, .string a0_3, .string a0_4]] w fun e w' => e = .returned (.string r) ∧ Below w.heap.size w w' := by
  have hu24 := Tryd.underlying24
  have HB := Aside0.mk (Below.refl w.heap.size w)
  have H : ((spec_decimal16.f k a0_0).bind fun t268 => (if t268.size + 1 ≤ 9223372036854775807 then ((spec_decimal16.f k a0_1).bind fun t269 => (if (t268 ++ (⟨#[46]⟩ : ByteArray)).size + t269.size ≤ 9223372036854775807 then (if ((t268 ++ (⟨#[46]⟩ : ByteArray)) ++ t269).size + 1 ≤ 9223372036854775807 then ((spec_decimal16.f k a0_2).bind fun t270 => (if (((t268 ++ (⟨#[46]⟩ : ByteArray)) ++ t269) ++ (⟨#[46]⟩ : ByteArray)).size + t270.size ≤ 9223372036854775807 then (if a0_3.toList = ([] : List UInt8) then (spec_TextOf.j0 k ((((t268 ++ (⟨#[46]⟩ : ByteArray)) ++ t269) ++ (⟨#[46]⟩ : ByteArray)) ++ t270) a0_0 a0_1 a0_2 a0_3 a0_4) else (if 1 + a0_3.size ≤ 9223372036854775807 then (if ((((t268 ++ (⟨#[46]⟩ : ByteArray)) ++ t269) ++ (⟨#[46]⟩ : ByteArray)) ++ t270).size + ((⟨#[45]⟩ : ByteArray) ++ a0_3).size ≤ 9223372036854775807 then (spec_TextOf.j0 k (((((t268 ++ (⟨#[46]⟩ : ByteArray)) ++ t269) ++ (⟨#[46]⟩ : ByteArray)) ++ t270) ++ ((⟨#[45]⟩ : ByteArray) ++ a0_3)) a0_0 a0_1 a0_2 a0_3 a0_4) else (none)) else (none))) else (none))) else (none)) else (none))) else (none))) = some r := h
  clear h
  replace H := Option.bind_eq_some_iff.mp H
  obtain ⟨t268, A20, H⟩ := H
  replace H : (if t268.size + 1 ≤ 9223372036854775807 then ((spec_decimal16.f k a0_1).bind fun t269 => (if (t268 ++ (⟨#[46]⟩ : ByteArray)).size + t269.size ≤ 9223372036854775807 then (if ((t268 ++ (⟨#[46]⟩ : ByteArray)) ++ t269).size + 1 ≤ 9223372036854775807 then ((spec_decimal16.f k a0_2).bind fun t270 => (if (((t268 ++ (⟨#[46]⟩ : ByteArray)) ++ t269) ++ (⟨#[46]⟩ : ByteArray)).size + t270.size ≤ 9223372036854775807 then (if a0_3.toList = ([] : List UInt8) then (spec_TextOf.j0 k ((((t268 ++ (⟨#[46]⟩ : ByteArray)) ++ t269) ++ (⟨#[46]⟩ : ByteArray)) ++ t270) a0_0 a0_1 a0_2 a0_3 a0_4) else (if 1 + a0_3.size ≤ 9223372036854775807 then (if ((((t268 ++ (⟨#[46]⟩ : ByteArray)) ++ t269) ++ (⟨#[46]⟩ : ByteArray)) ++ t270).size + ((⟨#[45]⟩ : ByteArray) ++ a0_3).size ≤ 9223372036854775807 then (spec_TextOf.j0 k (((((t268 ++ (⟨#[46]⟩ : ByteArray)) ++ t269) ++ (⟨#[46]⟩ : ByteArray)) ++ t270) ++ ((⟨#[45]⟩ : ByteArray) ++ a0_3)) a0_0 a0_1 a0_2 a0_3 a0_4) else (none)) else (none))) else (none))) else (none)) else (none))) else (none)) = some r := H
  have A2 := Aside0.mk A20
  clear A20
  by_cases c3 : t268.size + 1 ≤ 9223372036854775807
  · rw [if_pos c3] at H
    have c3b0 := eq_true c3
    have c3b1 : decide (t268.size + 1 ≤ 9223372036854775807) = true := decide_eq_true c3
    try have c3b2 : (9223372036854775807 < t268.size + 1) = False := eq_false (Nat.not_lt.2 c3)
    replace H := Option.bind_eq_some_iff.mp H
    obtain ⟨t269, A40, H⟩ := H
    replace H : (if (t268 ++ (⟨#[46]⟩ : ByteArray)).size + t269.size ≤ 9223372036854775807 then (if ((t268 ++ (⟨#[46]⟩ : ByteArray)) ++ t269).size + 1 ≤ 9223372036854775807 then ((spec_decimal16.f k a0_2).bind fun t270 => (if (((t268 ++ (⟨#[46]⟩ : ByteArray)) ++ t269) ++ (⟨#[46]⟩ : ByteArray)).size + t270.size ≤ 9223372036854775807 then (if a0_3.toList = ([] : List UInt8) then (spec_TextOf.j0 k ((((t268 ++ (⟨#[46]⟩ : ByteArray)) ++ t269) ++ (⟨#[46]⟩ : ByteArray)) ++ t270) a0_0 a0_1 a0_2 a0_3 a0_4) else (if 1 + a0_3.size ≤ 9223372036854775807 then (if ((((t268 ++ (⟨#[46]⟩ : ByteArray)) ++ t269) ++ (⟨#[46]⟩ : ByteArray)) ++ t270).size + ((⟨#[45]⟩ : ByteArray) ++ a0_3).size ≤ 9223372036854775807 then (spec_TextOf.j0 k (((((t268 ++ (⟨#[46]⟩ : ByteArray)) ++ t269) ++ (⟨#[46]⟩ : ByteArray)) ++ t270) ++ ((⟨#[45]⟩ : ByteArray) ++ a0_3)) a0_0 a0_1 a0_2 a0_3 a0_4) else (none)) else (none))) else (none))) else (none)) else (none)) = some r := H
    have A4 := Aside0.mk A40
    clear A40
    by_cases c5 : (t268 ++ (⟨#[46]⟩ : ByteArray)).size + t269.size ≤ 9223372036854775807
    · rw [if_pos c5] at H
      have c5b0 := eq_true c5
      have c5b1 : decide ((t268 ++ (⟨#[46]⟩ : ByteArray)).size + t269.size ≤ 9223372036854775807) = true := decide_eq_true c5
      try have c5b2 : (9223372036854775807 < (t268 ++ (⟨#[46]⟩ : ByteArray)).size + t269.size) = False := eq_false (Nat.not_lt.2 c5)
      try have c5b4 := c5b2
      try simp only [ByteArray.size_append, show (⟨#[46]⟩ : ByteArray).size = 1 from rfl, show (⟨#[45]⟩ : ByteArray).size = 1 from rfl, show (⟨#[43]⟩ : ByteArray).size = 1 from rfl] at c5b4
      by_cases c6 : ((t268 ++ (⟨#[46]⟩ : ByteArray)) ++ t269).size + 1 ≤ 9223372036854775807
      · rw [if_pos c6] at H
        have c6b0 := eq_true c6
        have c6b1 : decide (((t268 ++ (⟨#[46]⟩ : ByteArray)) ++ t269).size + 1 ≤ 9223372036854775807) = true := decide_eq_true c6
        try have c6b2 : (9223372036854775807 < ((t268 ++ (⟨#[46]⟩ : ByteArray)) ++ t269).size + 1) = False := eq_false (Nat.not_lt.2 c6)
        try have c6b4 := c6b2
        try simp only [ByteArray.size_append, show (⟨#[46]⟩ : ByteArray).size = 1 from rfl, show (⟨#[45]⟩ : ByteArray).size = 1 from rfl, show (⟨#[43]⟩ : ByteArray).size = 1 from rfl] at c6b4
        replace H := Option.bind_eq_some_iff.mp H
        obtain ⟨t270, A70, H⟩ := H
        replace H : (if (((t268 ++ (⟨#[46]⟩ : ByteArray)) ++ t269) ++ (⟨#[46]⟩ : ByteArray)).size + t270.size ≤ 9223372036854775807 then (if a0_3.toList = ([] : List UInt8) then (spec_TextOf.j0 k ((((t268 ++ (⟨#[46]⟩ : ByteArray)) ++ t269) ++ (⟨#[46]⟩ : ByteArray)) ++ t270) a0_0 a0_1 a0_2 a0_3 a0_4) else (if 1 + a0_3.size ≤ 9223372036854775807 then (if ((((t268 ++ (⟨#[46]⟩ : ByteArray)) ++ t269) ++ (⟨#[46]⟩ : ByteArray)) ++ t270).size + ((⟨#[45]⟩ : ByteArray) ++ a0_3).size ≤ 9223372036854775807 then (spec_TextOf.j0 k (((((t268 ++ (⟨#[46]⟩ : ByteArray)) ++ t269) ++ (⟨#[46]⟩ : ByteArray)) ++ t270) ++ ((⟨#[45]⟩ : ByteArray) ++ a0_3)) a0_0 a0_1 a0_2 a0_3 a0_4) else (none)) else (none))) else (none)) = some r := H
        have A7 := Aside0.mk A70
        clear A70
        by_cases c8 : (((t268 ++ (⟨#[46]⟩ : ByteArray)) ++ t269) ++ (⟨#[46]⟩ : ByteArray)).size + t270.size ≤ 9223372036854775807
        · rw [if_pos c8] at H
          have c8b0 := eq_true c8
          have c8b1 : decide ((((t268 ++ (⟨#[46]⟩ : ByteArray)) ++ t269) ++ (⟨#[46]⟩ : ByteArray)).size + t270.size ≤ 9223372036854775807) = true := decide_eq_true c8
          try have c8b2 : (9223372036854775807 < (((t268 ++ (⟨#[46]⟩ : ByteArray)) ++ t269) ++ (⟨#[46]⟩ : ByteArray)).size + t270.size) = False := eq_false (Nat.not_lt.2 c8)
          try have c8b4 := c8b2
          try simp only [ByteArray.size_append, show (⟨#[46]⟩ : ByteArray).size = 1 from rfl, show (⟨#[45]⟩ : ByteArray).size = 1 from rfl, show (⟨#[43]⟩ : ByteArray).size = 1 from rfl] at c8b4
          have HC9 := Aside0.mk H
          clear H
          go_enter Tryd.func20, Tryd.ntmps20
          try go_wp2_with (first | ((with_reducible refine gate_dst (N := 1) rfl ?_); refine box_event ?hg (N := 1) ?hd (cs := #[.int .u64 a0_0, .int .u64 a0_1, .int .u64 a0_2, .string a0_3, .string a0_4]) (t := 24) ?hr ?_; (case hd => rfl); (case hg => rfl); (case hr => first | (go_simp; done) | (go_simp; rfl) | (go_simp; simp only [u8_dec_]; done) | (go_simp; simp only [u8_dec_]; rfl) | (rw [← u8_dec_]; go_simp; done)); intro gb267 hg w10 hbox hb; have n0_ := Aside0.mk (below_step (by repeat (first | (with_reducible first | exact HB.out | apply below_alloc | apply pw_below_drewN | apply below_drew1) | exact HB.out)) hb); have n1_ := Aside0.mk (hbox); have n2_ := Aside0.mk ((by rw [hg]; exact (below_size (by repeat (first | (with_reducible first | exact HB.out | apply below_alloc | apply pw_below_drewN | apply below_drew1) | exact HB.out))) : w.heap.size ≤ gb267)); have n3_ := Aside0.mk ((by rw [hg]; exact (below_size (by repeat (first | (with_reducible first | exact HB.out | apply below_alloc | apply pw_below_drewN | apply below_drew1) | exact HB.out))) : w.heap.size ≤ gb267)); clear HB; have HB := n0_; have BK267 := n1_; have GW267 := n2_; have GE267 := n3_; clear n0_ n1_ n2_ n3_; clear hb hbox hg))
          have n0_ := Aside0.mk (blk_drew BK267.out)
          have n1_ := Aside0.mk (below_drew1 HB.out)
          clear BK267
          clear HB
          have BK267 := n0_
          have HB := n1_
          clear n0_ n1_
          refine start_ (n := 14) (S := fun w' => w'.cell? ⟨gb267, 0, none⟩ = some (.int .u64 a0_0) ∧ w'.cell? ⟨gb267, 1, none⟩ = some (.int .u64 a0_1) ∧ w'.cell? ⟨gb267, 2, none⟩ = some (.int .u64 a0_2) ∧ w'.cell? ⟨gb267, 3, none⟩ = some (.string a0_3) ∧ w'.cell? ⟨gb267, 4, none⟩ = some (.string a0_4)) (ds := []) #[false, false, false, false, false, false, false, false, false, false, false, false, false, false] (by kernel_rfl) rfl rfl ⟨(blk_cell BK267.out 0).trans rfl, (blk_cell BK267.out 1).trans rfl, (blk_cell BK267.out 2).trans rfl, (blk_cell BK267.out 3).trans rfl, (blk_cell BK267.out 4).trans rfl⟩ (fun hHeld => ?_); refine with_tabW spec_TextOf.tab1 spec_TextOf.bits1 (fun HT_ HW_ => ?_)
          generalize w10.drew = w11 at BK267 HB hHeld ⊢
          refine pure_ (i := 0) (N := some 4) (v := ?_) (a' := ?_) #[true, false, false, false, false, false, false, false, false, false, false, false, false, false] rfl rfl (any_of HT_.out (by kernel_rfl)) (fun _ _ _ h => h) (Or.inl ⟨by rfl, ?_⟩) ?_ ?_
          rotate_left
          · intro w'
            go_simp
            with_reducible rfl
          rotate_left
          · simp only [Act.put, List.setIfInBounds_toArray, List.set_cons_zero, List.set_cons_succ, i64_w, i32_w]
            rfl
          refine pure_ (i := 4) (N := some 8) (v := ?_) (a' := ?_) #[true, false, false, false, true, false, false, false, false, false, false, false, false, false] rfl rfl (any_of HT_.out (by kernel_rfl)) (fun _ _ _ h => h) (Or.inl ⟨by rfl, ?_⟩) ?_ ?_
          rotate_left
          · intro w'
            go_simp
            with_reducible rfl
          rotate_left
          · simp only [Act.put, List.setIfInBounds_toArray, List.set_cons_zero, List.set_cons_succ, i64_w, i32_w]
            rfl
          refine pure_ (i := 9) (N := some 13) (v := ?_) (a' := ?_) #[true, false, false, false, true, false, false, false, false, true, false, false, false, false] rfl rfl (any_of HT_.out (by kernel_rfl)) (fun _ _ _ h => h) (Or.inl ⟨by rfl, ?_⟩) ?_ ?_
          rotate_left
          · intro w'
            go_simp
            with_reducible rfl
          rotate_left
          · simp only [Act.put, List.setIfInBounds_toArray, List.set_cons_zero, List.set_cons_succ, i64_w, i32_w]
            rfl
          refine take_ (i := 1) (N := some 5) (v := ?_) (a' := ?_) #[true, true, false, false, true, false, false, false, false, true, false, false, false, false] rfl rfl (take_ofW HT_.out HW_.out (by kernel_rfl)) (fun _ _ _ h => h) (Or.inl ⟨by rfl, ?_⟩) hHeld ?_ ?_
          rotate_left
          · rintro w' ⟨s0, s1, s2, s3, s4⟩
            go_simp
            with_reducible rfl
          rotate_left
          · simp only [Act.put, List.setIfInBounds_toArray, List.set_cons_zero, List.set_cons_succ, i64_w, i32_w]
            rfl
          refine take_ (i := 5) (N := some 9) (v := ?_) (a' := ?_) #[true, true, false, false, true, true, false, false, false, true, false, false, false, false] rfl rfl (take_ofW HT_.out HW_.out (by kernel_rfl)) (fun _ _ _ h => h) (Or.inl ⟨by rfl, ?_⟩) hHeld ?_ ?_
          rotate_left
          · rintro w' ⟨s0, s1, s2, s3, s4⟩
            go_simp
            with_reducible rfl
          rotate_left
          · simp only [Act.put, List.setIfInBounds_toArray, List.set_cons_zero, List.set_cons_succ, i64_w, i32_w]
            rfl
          refine take_ (i := 10) (N := some 14) (v := ?_) (a' := ?_) #[true, true, false, false, true, true, false, false, false, true, true, false, false, false] rfl rfl (take_ofW HT_.out HW_.out (by kernel_rfl)) (fun _ _ _ h => h) (Or.inl ⟨by rfl, ?_⟩) hHeld ?_ ?_
          rotate_left
          · rintro w' ⟨s0, s1, s2, s3, s4⟩
            go_simp
            with_reducible rfl
          rotate_left
          · simp only [Act.put, List.setIfInBounds_toArray, List.set_cons_zero, List.set_cons_succ, i64_w, i32_w]
            rfl
          refine one_ (i := 2) (N := some 6) #[true, true, true, false, true, true, false, false, false, true, true, false, false, false] rfl rfl (one_of HT_.out (by kernel_rfl)) (by decide) (fun K hK => ?_)
          refine goes_ Tryd.func47 (by kernel_rfl) rfl #[.int .u64 a0_0] (by rfl) rfl rfl (by (try simp only [List.map_toArray, List.map_cons, List.map_nil]); first | done | rfl | (simp only [List.length_drop, List.length_take]; rfl)) ?_
          with_reducible refine (spec_decimal16.calls k a0_0 t268 _ A2.out).mono ?_
          rintro e w12 ⟨rfl, hb⟩
          refine ⟨_, rfl, ?_⟩
          have n0_ := Aside0.mk (blk_below (g := gb267) (o := .cells #[.int .u64 a0_0, .int .u64 a0_1, .int .u64 a0_2, .string a0_3, .string a0_4] 24 (0, 0)) (by (with_reducible repeat (first | refine blk_drewN ?_ _ | refine blk_drew ?_ | refine blk_alloc ?_ _)); exact BK267.out) hb)
          have n1_ := Aside0.mk (below_step (by repeat (first | (with_reducible first | exact HB.out | apply below_alloc | apply pw_below_drewN | apply below_drew1 | refine below_set ?_ GE267.out) | exact HB.out)) hb)
          clear BK267
          clear HB
          have BK267 := n0_
          have HB := n1_
          clear n0_ n1_
          (try clear hb)
          (try clear hb2)
          (try clear hk)
          (try clear hi)
          refine hK.out _ _ ⟨(blk_cell BK267.out 0).trans rfl, (blk_cell BK267.out 1).trans rfl, (blk_cell BK267.out 2).trans rfl, (blk_cell BK267.out 3).trans rfl, (blk_cell BK267.out 4).trans rfl⟩ (fun hHeld => ?_)
          clear hK K
          refine norm_ (a' := ?_) ?_ ?_
          rotate_left
          · show Act.put _ (some 6) _ = _
            simp only [Act.put, List.setIfInBounds_toArray, List.set_cons_zero, List.set_cons_succ, i64_w, i32_w]
            rfl
          refine pure_ (i := 3) (N := some 7) (v := ?_) (a' := ?_) #[true, true, true, true, true, true, false, false, false, true, true, false, false, false] rfl rfl (any_of HT_.out (by kernel_rfl)) (fun _ _ _ h => h) (Or.inl ⟨by rfl, ?_⟩) ?_ ?_
          rotate_left
          · intro w'
            go_simp
            with_reducible rfl
          rotate_left
          · simp only [Act.put, List.setIfInBounds_toArray, List.set_cons_zero, List.set_cons_succ, i64_w, i32_w]
            rfl
          refine one_ (i := 6) (N := some 10) #[true, true, true, true, true, true, true, false, false, true, true, false, false, false] rfl rfl (one_of HT_.out (by kernel_rfl)) (by decide) (fun K hK => ?_)
          refine goes_ Tryd.func47 (by kernel_rfl) rfl #[.int .u64 a0_1] (by rfl) rfl rfl (by (try simp only [List.map_toArray, List.map_cons, List.map_nil]); first | done | rfl | (simp only [List.length_drop, List.length_take]; rfl)) ?_
          with_reducible refine (spec_decimal16.calls k a0_1 t269 _ A4.out).mono ?_
          rintro e w13 ⟨rfl, hb⟩
          refine ⟨_, rfl, ?_⟩
          have n0_ := Aside0.mk (blk_below (g := gb267) (o := .cells #[.int .u64 a0_0, .int .u64 a0_1, .int .u64 a0_2, .string a0_3, .string a0_4] 24 (0, 0)) (by (with_reducible repeat (first | refine blk_drewN ?_ _ | refine blk_drew ?_ | refine blk_alloc ?_ _)); exact BK267.out) hb)
          have n1_ := Aside0.mk (below_step (by repeat (first | (with_reducible first | exact HB.out | apply below_alloc | apply pw_below_drewN | apply below_drew1 | refine below_set ?_ GE267.out) | exact HB.out)) hb)
          clear BK267
          clear HB
          have BK267 := n0_
          have HB := n1_
          clear n0_ n1_
          (try clear hb)
          (try clear hb2)
          (try clear hk)
          (try clear hi)
          refine hK.out _ _ ⟨(blk_cell BK267.out 0).trans rfl, (blk_cell BK267.out 1).trans rfl, (blk_cell BK267.out 2).trans rfl, (blk_cell BK267.out 3).trans rfl, (blk_cell BK267.out 4).trans rfl⟩ (fun hHeld => ?_)
          clear hK K
          refine norm_ (a' := ?_) ?_ ?_
          rotate_left
          · show Act.put _ (some 10) _ = _
            simp only [Act.put, List.setIfInBounds_toArray, List.set_cons_zero, List.set_cons_succ, i64_w, i32_w]
            rfl
          refine pure_ (i := 7) (N := some 11) (v := ?_) (a' := ?_) #[true, true, true, true, true, true, true, true, false, true, true, false, false, false] rfl rfl (any_of HT_.out (by kernel_rfl)) (fun _ _ _ h => h) (Or.inl ⟨by rfl, ?_⟩) ?_ ?_
          rotate_left
          · intro w'
            go_simp
            with_reducible rfl
          rotate_left
          · simp only [Act.put, List.setIfInBounds_toArray, List.set_cons_zero, List.set_cons_succ, i64_w, i32_w]
            rfl
          refine pure_ (i := 8) (N := some 12) (v := ?_) (a' := ?_) #[true, true, true, true, true, true, true, true, true, true, true, false, false, false] rfl rfl (any_of HT_.out (by kernel_rfl)) (fun _ _ _ h => h) (Or.inl ⟨by rfl, ?_⟩) ?_ ?_
          rotate_left
          · intro w'
            go_simp
            with_reducible rfl
          rotate_left
          · simp only [Act.put, List.setIfInBounds_toArray, List.set_cons_zero, List.set_cons_succ, i64_w, i32_w]
            rfl
          refine one_ (i := 11) (N := some 15) #[true, true, true, true, true, true, true, true, true, true, true, true, false, false] rfl rfl (one_of HT_.out (by kernel_rfl)) (by decide) (fun K hK => ?_)
          refine goes_ Tryd.func47 (by kernel_rfl) rfl #[.int .u64 a0_2] (by rfl) rfl rfl (by (try simp only [List.map_toArray, List.map_cons, List.map_nil]); first | done | rfl | (simp only [List.length_drop, List.length_take]; rfl)) ?_
          with_reducible refine (spec_decimal16.calls k a0_2 t270 _ A7.out).mono ?_
          rintro e w14 ⟨rfl, hb⟩
          refine ⟨_, rfl, ?_⟩
          have n0_ := Aside0.mk (blk_below (g := gb267) (o := .cells #[.int .u64 a0_0, .int .u64 a0_1, .int .u64 a0_2, .string a0_3, .string a0_4] 24 (0, 0)) (by (with_reducible repeat (first | refine blk_drewN ?_ _ | refine blk_drew ?_ | refine blk_alloc ?_ _)); exact BK267.out) hb)
          have n1_ := Aside0.mk (below_step (by repeat (first | (with_reducible first | exact HB.out | apply below_alloc | apply pw_below_drewN | apply below_drew1 | refine below_set ?_ GE267.out) | exact HB.out)) hb)
          clear BK267
          clear HB
          have BK267 := n0_
          have HB := n1_
          clear n0_ n1_
          (try clear hb)
          (try clear hb2)
          (try clear hk)
          (try clear hi)
          refine hK.out _ _ ⟨(blk_cell BK267.out 0).trans rfl, (blk_cell BK267.out 1).trans rfl, (blk_cell BK267.out 2).trans rfl, (blk_cell BK267.out 3).trans rfl, (blk_cell BK267.out 4).trans rfl⟩ (fun hHeld => ?_)
          clear hK K
          refine norm_ (a' := ?_) ?_ ?_
          rotate_left
          · show Act.put _ (some 15) _ = _
            simp only [Act.put, List.setIfInBounds_toArray, List.set_cons_zero, List.set_cons_succ, i64_w, i32_w]
            rfl
          refine pure_ (i := 12) (N := some 16) (v := ?_) (a' := ?_) #[true, true, true, true, true, true, true, true, true, true, true, true, true, false] rfl rfl (any_of HT_.out (by kernel_rfl)) (fun _ _ _ h => h) (Or.inl ⟨by rfl, ?_⟩) ?_ ?_
          rotate_left
          · intro w'
            go_simp
            with_reducible rfl
          rotate_left
          · simp only [Act.put, List.setIfInBounds_toArray, List.set_cons_zero, List.set_cons_succ, i64_w, i32_w]
            rfl
          refine pure_ (i := 13) (N := some 3) (v := ?_) (a' := ?_) #[true, true, true, true, true, true, true, true, true, true, true, true, true, true] rfl rfl (any_of HT_.out (by kernel_rfl)) (fun _ _ _ h => h) (Or.inl ⟨by rfl, ?_⟩) ?_ ?_
          rotate_left
          · intro w'
            go_simp
            with_reducible rfl
          rotate_left
          · simp only [Act.put, List.setIfInBounds_toArray, List.set_cons_zero, List.set_cons_succ, i64_w, i32_w]
            rfl
          refine done_ (done_of HT_.out (by kernel_rfl)) ?_
          have hcz15_0 : w14.cell? ⟨gb267, 0, none⟩ = some (.int .u64 a0_0) := (blk_cell BK267.out 0).trans rfl
          have hcz15_1 : w14.cell? ⟨gb267, 1, none⟩ = some (.int .u64 a0_1) := (blk_cell BK267.out 1).trans rfl
          have hcz15_2 : w14.cell? ⟨gb267, 2, none⟩ = some (.int .u64 a0_2) := (blk_cell BK267.out 2).trans rfl
          have hcz15_3 : w14.cell? ⟨gb267, 3, none⟩ = some (.string a0_3) := (blk_cell BK267.out 3).trans rfl
          have hcz15_4 : w14.cell? ⟨gb267, 4, none⟩ = some (.string a0_4) := (blk_cell BK267.out 4).trans rfl
          have hfz15_0 := blk_frozen BK267.out 0
          have hfz15_1 := blk_frozen BK267.out 1
          have hfz15_2 := blk_frozen BK267.out 2
          have hfz15_3 := blk_frozen BK267.out 3
          have hfz15_4 := blk_frozen BK267.out 4
          go_upto_if 19 with (fail)
          go_cut [3] (fun v3 wc => ∃ (kq : Nat) (x3_8 : ByteArray), v3 = .string x3_8 ∧ Aside0 (spec_TextOf.j0 kq x3_8 a0_0 a0_1 a0_2 a0_3 a0_4 = some r) ∧ Aside0 (kq ≤ k) ∧ Aside0 (wc.heap[gb267]? = some (.cells #[.int .u64 a0_0, .int .u64 a0_1, .int .u64 a0_2, .string a0_3, .string a0_4] 24 (0, 0))) ∧ Aside0 (Below w.heap.size w wc))
          case first =>
            have H := HC9.out
            clear HC9
            by_cases c16 : a0_3.toList = ([] : List UInt8)
            · rw [if_pos c16] at H
              have c16b0 : (a0_3.toList == ([] : List UInt8)) = true := beq_iff_eq.mpr c16
              have c16e0 : (a0_3.toList).isEmpty = true := by rw [c16]; rfl
              have c16b1 : (a0_3.toList != ([] : List UInt8)) = false := bne_eq_false_iff_eq.mpr c16
              clear c16
              (first | rw [c16e0] | rw [c16b0] | (simp only [i64_w, i32_w]; rw [c16b0]) | skip)
              as_aux_lemma =>
                have H' := Aside0.mk H
                clear H
                go_wp2
                go_meet
                case rel => exact ⟨_, ((((t268 ++ (⟨#[46]⟩ : ByteArray)) ++ t269) ++ (⟨#[46]⟩ : ByteArray)) ++ t270), (by first | rfl | (simp only [bytesLe_not]; done) | (simp; done) | (simp [*]; done)), H', ⟨by first | omega | exact Nat.le_refl _⟩, ⟨by (with_reducible repeat (first | refine blk_drewN ?_ _ | refine blk_drew ?_ | refine blk_alloc ?_ _)); exact BK267.out⟩, ⟨by repeat (first | (with_reducible first | exact HB.out | apply below_alloc | apply pw_below_drewN | apply below_drew1 | refine below_set ?_ GE267.out) | exact HB.out)⟩⟩
            · rw [if_neg c16] at H
              have c16b0 : (a0_3.toList == ([] : List UInt8)) = false := beq_eq_false_iff_ne.mpr c16
              have c16e0 : (a0_3.toList).isEmpty = false := by cases hq_ : (a0_3.toList).isEmpty with | false => rfl | true => exact absurd (List.isEmpty_iff.mp hq_) c16
              have c16b1 : (a0_3.toList != ([] : List UInt8)) = true := bne_iff_ne.mpr c16
              (first | rw [c16e0] | rw [c16b0] | (simp only [i64_w, i32_w]; rw [c16b0]) | skip)
              by_cases c17 : 1 + a0_3.size ≤ 9223372036854775807
              · rw [if_pos c17] at H
                have c17b0 := eq_true c17
                have c17b1 : decide (1 + a0_3.size ≤ 9223372036854775807) = true := decide_eq_true c17
                try have c17b2 : (9223372036854775807 < 1 + a0_3.size) = False := eq_false (Nat.not_lt.2 c17)
                by_cases c18 : ((((t268 ++ (⟨#[46]⟩ : ByteArray)) ++ t269) ++ (⟨#[46]⟩ : ByteArray)) ++ t270).size + ((⟨#[45]⟩ : ByteArray) ++ a0_3).size ≤ 9223372036854775807
                · rw [if_pos c18] at H
                  have c18b0 := eq_true c18
                  have c18b1 : decide (((((t268 ++ (⟨#[46]⟩ : ByteArray)) ++ t269) ++ (⟨#[46]⟩ : ByteArray)) ++ t270).size + ((⟨#[45]⟩ : ByteArray) ++ a0_3).size ≤ 9223372036854775807) = true := decide_eq_true c18
                  try have c18b2 : (9223372036854775807 < ((((t268 ++ (⟨#[46]⟩ : ByteArray)) ++ t269) ++ (⟨#[46]⟩ : ByteArray)) ++ t270).size + ((⟨#[45]⟩ : ByteArray) ++ a0_3).size) = False := eq_false (Nat.not_lt.2 c18)
                  try have c18b4 := c18b2
                  try simp only [ByteArray.size_append, show (⟨#[46]⟩ : ByteArray).size = 1 from rfl, show (⟨#[45]⟩ : ByteArray).size = 1 from rfl, show (⟨#[43]⟩ : ByteArray).size = 1 from rfl] at c18b4
                  as_aux_lemma =>
                    have H' := Aside0.mk H
                    clear H
                    have hcz19_0 : w14.cell? ⟨gb267, 0, none⟩ = some (.int .u64 a0_0) := (blk_cell BK267.out 0).trans rfl
                    have hcz19_1 : w14.cell? ⟨gb267, 1, none⟩ = some (.int .u64 a0_1) := (blk_cell BK267.out 1).trans rfl
                    have hcz19_2 : w14.cell? ⟨gb267, 2, none⟩ = some (.int .u64 a0_2) := (blk_cell BK267.out 2).trans rfl
                    have hcz19_3 : w14.cell? ⟨gb267, 3, none⟩ = some (.string a0_3) := (blk_cell BK267.out 3).trans rfl
                    have hcz19_4 : w14.cell? ⟨gb267, 4, none⟩ = some (.string a0_4) := (blk_cell BK267.out 4).trans rfl
                    have hfz19_0 := blk_frozen BK267.out 0
                    have hfz19_1 := blk_frozen BK267.out 1
                    have hfz19_2 := blk_frozen BK267.out 2
                    have hfz19_3 := blk_frozen BK267.out 3
                    have hfz19_4 := blk_frozen BK267.out 4
                    go_wp2
                    go_meet
                    case rel => exact ⟨_, (((((t268 ++ (⟨#[46]⟩ : ByteArray)) ++ t269) ++ (⟨#[46]⟩ : ByteArray)) ++ t270) ++ ((⟨#[45]⟩ : ByteArray) ++ a0_3)), (by first | rfl | (simp only [bytesLe_not]; done) | (simp; done) | (simp [*]; done)), H', ⟨by first | omega | exact Nat.le_refl _⟩, ⟨by (with_reducible repeat (first | refine blk_drewN ?_ _ | refine blk_drew ?_ | refine blk_alloc ?_ _)); exact BK267.out⟩, ⟨by repeat (first | (with_reducible first | exact HB.out | apply below_alloc | apply pw_below_drewN | apply below_drew1 | refine below_set ?_ GE267.out) | exact HB.out)⟩⟩
                · rw [if_neg c18] at H
                  exact absurd H (by simp)
              · rw [if_neg c17] at H
                exact absurd H (by simp)
          case rest =>
            clear HC9
            try clear c1
            try clear c2
            try clear p2
            try clear c3
            try clear c3b0
            try clear c3b1
            try clear c3b2
            try clear c4
            try clear c5
            try clear c5b0
            try clear c5b1
            try clear c5b2
            try clear c6
            try clear c6b0
            try clear c6b1
            try clear c6b2
            try clear c8
            try clear c8b0
            try clear c8b1
            try clear c8b2
            try clear c16
            try clear c16b0
            try clear c16b1
            try clear c17
            try clear c17b0
            try clear c17b1
            try clear c17b2
            try clear c18
            try clear c18b0
            try clear c18b1
            try clear c18b2
            try clear hcz15_0
            try clear hcz15_1
            try clear hcz15_2
            try clear hcz15_3
            try clear hcz15_4
            try clear hcz19_0
            try clear hcz19_1
            try clear hcz19_2
            try clear hcz19_3
            try clear hcz19_4
            try clear hfz15_0
            try clear hfz15_1
            try clear hfz15_2
            try clear hfz15_3
            try clear hfz15_4
            try clear hfz19_0
            try clear hfz19_1
            try clear hfz19_2
            try clear hfz19_3
            try clear hfz19_4
            obtain ⟨kq, x3_8, rfl, HA, HJ8, BK267, HB⟩ := hcut
            cases kq with
            | zero => exact absurd HA.out (by simp [spec_TextOf.j0])
            | succ kj8 =>
              have H := HA.out
              clear HA
              simp only [spec_TextOf.j0] at H
              by_cases c20 : a0_4.toList = ([] : List UInt8)
              · rw [if_pos c20] at H
                have c20b0 : (a0_4.toList == ([] : List UInt8)) = true := beq_iff_eq.mpr c20
                have c20e0 : (a0_4.toList).isEmpty = true := by rw [c20]; rfl
                have c20b1 : (a0_4.toList != ([] : List UInt8)) = false := bne_eq_false_iff_eq.mpr c20
                clear c20
                as_aux_lemma =>
                  obtain rfl := Option.some.inj H
                  have hcz21_0 : wc.cell? ⟨gb267, 0, none⟩ = some (.int .u64 a0_0) := (blk_cell BK267.out 0).trans rfl
                  have hcz21_1 : wc.cell? ⟨gb267, 1, none⟩ = some (.int .u64 a0_1) := (blk_cell BK267.out 1).trans rfl
                  have hcz21_2 : wc.cell? ⟨gb267, 2, none⟩ = some (.int .u64 a0_2) := (blk_cell BK267.out 2).trans rfl
                  have hcz21_3 : wc.cell? ⟨gb267, 3, none⟩ = some (.string a0_3) := (blk_cell BK267.out 3).trans rfl
                  have hcz21_4 : wc.cell? ⟨gb267, 4, none⟩ = some (.string a0_4) := (blk_cell BK267.out 4).trans rfl
                  have hfz21_0 := blk_frozen BK267.out 0
                  have hfz21_1 := blk_frozen BK267.out 1
                  have hfz21_2 := blk_frozen BK267.out 2
                  have hfz21_3 := blk_frozen BK267.out 3
                  have hfz21_4 := blk_frozen BK267.out 4
                  go_wp2
                  go_ret
                  exact ⟨by first | rfl | (simp [errW_none, errW_some] <;> rfl) | (simp [*, errW_none, errW_some] <;> rfl), by repeat (first | (with_reducible first | exact HB.out | apply below_alloc | apply pw_below_drewN | apply below_drew1 | refine below_set ?_ GE267.out) | exact HB.out)⟩
              · rw [if_neg c20] at H
                have c20b0 : (a0_4.toList == ([] : List UInt8)) = false := beq_eq_false_iff_ne.mpr c20
                have c20e0 : (a0_4.toList).isEmpty = false := by cases hq_ : (a0_4.toList).isEmpty with | false => rfl | true => exact absurd (List.isEmpty_iff.mp hq_) c20
                have c20b1 : (a0_4.toList != ([] : List UInt8)) = true := bne_iff_ne.mpr c20
                by_cases c22 : 1 + a0_4.size ≤ 9223372036854775807
                · rw [if_pos c22] at H
                  have c22b0 := eq_true c22
                  have c22b1 : decide (1 + a0_4.size ≤ 9223372036854775807) = true := decide_eq_true c22
                  try have c22b2 : (9223372036854775807 < 1 + a0_4.size) = False := eq_false (Nat.not_lt.2 c22)
                  by_cases c23 : x3_8.size + ((⟨#[43]⟩ : ByteArray) ++ a0_4).size ≤ 9223372036854775807
                  · rw [if_pos c23] at H
                    have c23b0 := eq_true c23
                    have c23b1 : decide (x3_8.size + ((⟨#[43]⟩ : ByteArray) ++ a0_4).size ≤ 9223372036854775807) = true := decide_eq_true c23
                    try have c23b2 : (9223372036854775807 < x3_8.size + ((⟨#[43]⟩ : ByteArray) ++ a0_4).size) = False := eq_false (Nat.not_lt.2 c23)
                    try have c23b4 := c23b2
                    try simp only [ByteArray.size_append, show (⟨#[46]⟩ : ByteArray).size = 1 from rfl, show (⟨#[45]⟩ : ByteArray).size = 1 from rfl, show (⟨#[43]⟩ : ByteArray).size = 1 from rfl] at c23b4
                    as_aux_lemma =>
                      obtain rfl := Option.some.inj H
                      have hcz24_0 : wc.cell? ⟨gb267, 0, none⟩ = some (.int .u64 a0_0) := (blk_cell BK267.out 0).trans rfl
                      have hcz24_1 : wc.cell? ⟨gb267, 1, none⟩ = some (.int .u64 a0_1) := (blk_cell BK267.out 1).trans rfl
                      have hcz24_2 : wc.cell? ⟨gb267, 2, none⟩ = some (.int .u64 a0_2) := (blk_cell BK267.out 2).trans rfl
                      have hcz24_3 : wc.cell? ⟨gb267, 3, none⟩ = some (.string a0_3) := (blk_cell BK267.out 3).trans rfl
                      have hcz24_4 : wc.cell? ⟨gb267, 4, none⟩ = some (.string a0_4) := (blk_cell BK267.out 4).trans rfl
                      have hfz24_0 := blk_frozen BK267.out 0
                      have hfz24_1 := blk_frozen BK267.out 1
                      have hfz24_2 := blk_frozen BK267.out 2
                      have hfz24_3 := blk_frozen BK267.out 3
                      have hfz24_4 := blk_frozen BK267.out 4
                      go_wp2
                      go_ret
                      exact ⟨by first | rfl | (simp [errW_none, errW_some] <;> rfl) | (simp [*, errW_none, errW_some] <;> rfl), by repeat (first | (with_reducible first | exact HB.out | apply below_alloc | apply pw_below_drewN | apply below_drew1 | refine below_set ?_ GE267.out) | exact HB.out)⟩
                  · rw [if_neg c23] at H
                    exact absurd H (by simp)
                · rw [if_neg c22] at H
                  exact absurd H (by simp)
        · rw [if_neg c8] at H
          exact absurd H (by simp)
      · rw [if_neg c6] at H
        exact absurd H (by simp)
    · rw [if_neg c5] at H
      exact absurd H (by simp)
  · rw [if_neg c3] at H
    exact absurd H (by simp)

-- NOT PRINTED: function 6 (laws_FnSemverNext)

/-! ### laws_version16of: function 21 -/
def laws_version16of.f (a0 : Int) (a1 : Int) (a2 : Int) : Option (Int × Int × Int × ByteArray × ByteArray) := some (IntKind.u64.wrap (Int.tmod a0 1000), IntKind.u64.wrap (Int.tmod a1 1000), IntKind.u64.wrap (Int.tmod a2 1000), (⟨#[]⟩ : ByteArray), (⟨#[]⟩ : ByteArray))
set_option maxHeartbeats 8000000 in
set_option maxRecDepth 100000 in
theorem laws_version16of.calls (a0 : Int) (a1 : Int) (a2 : Int) (r1 : Int) (r2 : Int) (r3 : Int) (r4 : ByteArray) (r5 : ByteArray) (w : World) (h : laws_version16of.f a0 a1 a2 = some (r1, r2, r3, r4, r5)) :
    Calls Tryd.prog 21 #[.int .u16 a0, .int .u16 a1, .int .u16 a2] w fun e w' => e = .returned (.agg #[.int .u64 r1, .int .u64 r2, .int .u64 r3, .string r4, .string r5]) ∧ Below w.heap.size w w' := by
  have hu24 := Tryd.underlying24
  have HB := Aside0.mk (Below.refl w.heap.size w)
  have H : (some (IntKind.u64.wrap (Int.tmod a0 1000), IntKind.u64.wrap (Int.tmod a1 1000), IntKind.u64.wrap (Int.tmod a2 1000), (⟨#[]⟩ : ByteArray), (⟨#[]⟩ : ByteArray))) = some (r1, r2, r3, r4, r5) := h
  clear h
  as_aux_lemma =>
    simp only [Option.some.injEq, Prod.mk.injEq] at H
    obtain ⟨rfl, rfl, rfl, rfl, rfl⟩ := H
    go_enter Tryd.func21, Tryd.ntmps21
    go_wp2_with (first | ((with_reducible refine gate_dst (N := 6) rfl ?_); refine box_event ?hg (N := 6) ?hd (cs := #[.int .u64 0, .int .u64 0, .int .u64 0, .string (⟨#[]⟩ : ByteArray), .string (⟨#[]⟩ : ByteArray)]) (t := 24) ?hr ?_; (case hd => rfl); (case hg => rfl); (case hr => first | (go_simp; done) | (go_simp; rfl) | (go_simp; simp only [u8_dec_]; done) | (go_simp; simp only [u8_dec_]; rfl) | (rw [← u8_dec_]; go_simp; done)); intro gb284 hg w4 hbox hb; have n0_ := Aside0.mk (below_step (by repeat (first | (with_reducible first | exact HB.out | apply below_alloc | apply pw_below_drewN | apply below_drew1) | exact HB.out)) hb); have n1_ := Aside0.mk (hbox); have n2_ := Aside0.mk ((by rw [hg]; exact (below_size (by repeat (first | (with_reducible first | exact HB.out | apply below_alloc | apply pw_below_drewN | apply below_drew1) | exact HB.out))) : w.heap.size ≤ gb284)); have n3_ := Aside0.mk ((by rw [hg]; exact (below_size (by repeat (first | (with_reducible first | exact HB.out | apply below_alloc | apply pw_below_drewN | apply below_drew1) | exact HB.out))) : w.heap.size ≤ gb284)); clear HB; have HB := n0_; have BK284 := n1_; have GW284 := n2_; have GE284 := n3_; clear n0_ n1_ n2_ n3_; clear hb hbox hg; have hcz5_0 : w4.cell? ⟨gb284, 0, none⟩ = some (.int .u64 0) := (blk_cell BK284.out 0).trans rfl; have hcz5_1 : w4.cell? ⟨gb284, 1, none⟩ = some (.int .u64 0) := (blk_cell BK284.out 1).trans rfl; have hcz5_2 : w4.cell? ⟨gb284, 2, none⟩ = some (.int .u64 0) := (blk_cell BK284.out 2).trans rfl; have hcz5_3 : w4.cell? ⟨gb284, 3, none⟩ = some (.string (⟨#[]⟩ : ByteArray)) := (blk_cell BK284.out 3).trans rfl; have hcz5_4 : w4.cell? ⟨gb284, 4, none⟩ = some (.string (⟨#[]⟩ : ByteArray)) := (blk_cell BK284.out 4).trans rfl; have hfz5_0 := blk_frozen BK284.out 0; have hfz5_1 := blk_frozen BK284.out 1; have hfz5_2 := blk_frozen BK284.out 2; have hfz5_3 := blk_frozen BK284.out 3; have hfz5_4 := blk_frozen BK284.out 4))
    refine bodyPost_ret (results_cell_row rfl _ _ gb284 24 #[.int .u64 (IntKind.u64.wrap (Int.tmod a0 1000)), .int .u64 (IntKind.u64.wrap (Int.tmod a1 1000)), .int .u64 (IntKind.u64.wrap (Int.tmod a2 1000)), .string (⟨#[]⟩ : ByteArray), .string (⟨#[]⟩ : ByteArray)] (0, 0) _ rfl (by (with_reducible repeat (first | refine blk_drewN ?_ _ | refine blk_drew ?_ | refine blk_alloc ?_ _)); refine blk_put (cs := #[.int .u64 (IntKind.u64.wrap (Int.tmod a0 1000)), .int .u64 (IntKind.u64.wrap (Int.tmod a1 1000)), .int .u64 (IntKind.u64.wrap (Int.tmod a2 1000)), .string (⟨#[]⟩ : ByteArray), .string (⟨#[]⟩ : ByteArray)]) ?_ 4 _ rfl; (with_reducible repeat (first | refine blk_drewN ?_ _ | refine blk_drew ?_ | refine blk_alloc ?_ _)); refine blk_put (cs := #[.int .u64 (IntKind.u64.wrap (Int.tmod a0 1000)), .int .u64 (IntKind.u64.wrap (Int.tmod a1 1000)), .int .u64 (IntKind.u64.wrap (Int.tmod a2 1000)), .string (⟨#[]⟩ : ByteArray), .string (⟨#[]⟩ : ByteArray)]) ?_ 3 _ rfl; (with_reducible repeat (first | refine blk_drewN ?_ _ | refine blk_drew ?_ | refine blk_alloc ?_ _)); refine blk_put (cs := #[.int .u64 (IntKind.u64.wrap (Int.tmod a0 1000)), .int .u64 (IntKind.u64.wrap (Int.tmod a1 1000)), .int .u64 0, .string (⟨#[]⟩ : ByteArray), .string (⟨#[]⟩ : ByteArray)]) ?_ 2 _ rfl; (with_reducible repeat (first | refine blk_drewN ?_ _ | refine blk_drew ?_ | refine blk_alloc ?_ _)); refine blk_put (cs := #[.int .u64 (IntKind.u64.wrap (Int.tmod a0 1000)), .int .u64 0, .int .u64 0, .string (⟨#[]⟩ : ByteArray), .string (⟨#[]⟩ : ByteArray)]) ?_ 1 _ rfl; (with_reducible repeat (first | refine blk_drewN ?_ _ | refine blk_drew ?_ | refine blk_alloc ?_ _)); refine blk_put (cs := #[.int .u64 0, .int .u64 0, .int .u64 0, .string (⟨#[]⟩ : ByteArray), .string (⟨#[]⟩ : ByteArray)]) ?_ 0 _ rfl; (with_reducible repeat (first | refine blk_drewN ?_ _ | refine blk_drew ?_ | refine blk_alloc ?_ _)); exact BK284.out) Tryd.underlying24 rfl (by kernel_rfl)) rfl ?_
    exact ⟨by first | rfl | (simp [errW_none, errW_some] <;> rfl) | (simp [*, errW_none, errW_some] <;> rfl), by repeat (first | (with_reducible first | exact HB.out | apply below_alloc | apply pw_below_drewN | apply below_drew1 | refine below_set ?_ GE284.out) | exact HB.out)⟩

/-! ### laws_letter16: function 22 -/
def laws_letter16.f (a0 : Int) : Option (ByteArray) := (some (([(⟨#[120]⟩ : ByteArray), (⟨#[88]⟩ : ByteArray), (⟨#[42]⟩ : ByteArray)] : List ByteArray) : List ByteArray)).bind fun y285 => (if 0 ≤ (Int.tmod a0 3) then (if (Int.tmod a0 3) < (y285.length : Int) then (some (rdOf ByteArray.empty y285 (Int.tmod a0 3))) else (none)) else (none))
set_option maxHeartbeats 8000000 in
set_option maxRecDepth 100000 in
theorem laws_letter16.calls (a0 : Int) (r : ByteArray) (w : World) (h : laws_letter16.f a0 = some r) :
    Calls Tryd.prog 22 #[.int .u8 a0] w fun e w' => e = .returned (.string r) ∧ Below w.heap.size w w' := by
  have HB := Aside0.mk (Below.refl w.heap.size w)
  have H : ((some (([(⟨#[120]⟩ : ByteArray), (⟨#[88]⟩ : ByteArray), (⟨#[42]⟩ : ByteArray)] : List ByteArray) : List ByteArray)).bind fun y285 => (if 0 ≤ (Int.tmod a0 3) then (if (Int.tmod a0 3) < (y285.length : Int) then (some (rdOf ByteArray.empty y285 (Int.tmod a0 3))) else (none)) else (none))) = some r := h
  clear h
  obtain ⟨y285, hy285⟩ : ∃ y_ : List ByteArray, y_ = (([(⟨#[120]⟩ : ByteArray), (⟨#[88]⟩ : ByteArray), (⟨#[42]⟩ : ByteArray)] : List ByteArray)) := ⟨_, rfl⟩
  replace H : (if 0 ≤ (Int.tmod a0 3) then (if (Int.tmod a0 3) < (y285.length : Int) then (some (rdOf ByteArray.empty y285 (Int.tmod a0 3))) else (none)) else (none)) = some r := by first | (rw [hy285]; with_reducible exact H) | (have H2_ := (Option.bind_some _ _).symm.trans H; rw [hy285]; with_reducible exact H2_) | (have H2_ := (Option.bind_some _ _).symm.trans H; with_reducible exact H2_) | with_reducible exact H | (rw [hy285]; exact H) | exact H
  have Ny285 := Aside0.mk hy285
  clear hy285
  obtain ⟨ji2, hji2⟩ : ∃ j_ : Int, (Int.tmod a0 3) = j_ := ⟨_, rfl⟩
  replace H : (if 0 ≤ (ji2) then (if (ji2) < (y285.length : Int) then (some (rdOf ByteArray.empty y285 (ji2))) else (none)) else (none)) = some r := by first | (rw [hji2] at H; exact H) | (simp only [hji2] at H ⊢; exact H)
  by_cases c3 : 0 ≤ (ji2)
  · rw [if_pos c3] at H
    have c3b0 : decide (0 ≤ (ji2)) = true := decide_eq_true c3
    clear c3
    by_cases c4 : (ji2) < (y285.length : Int)
    · rw [if_pos c4] at H
      have c4b0 : decide ((ji2) < (y285.length : Int)) = true := decide_eq_true c4
      clear c4
      as_aux_lemma =>
        obtain rfl := Option.some.inj H
        go_enter Tryd.func22, Tryd.ntmps22
        go_wp2_with (first | ((with_reducible refine gate_dst (N := 3) rfl ?_); refine Kd.R_lit Kd.string _ 9 ?hg (N := 3) ?hd (xs := ([(⟨#[120]⟩ : ByteArray), (⟨#[88]⟩ : ByteArray), (⟨#[42]⟩ : ByteArray)] : List ByteArray)) (inner := [.string (⟨#[120]⟩ : ByteArray), .string (⟨#[88]⟩ : ByteArray), .string (⟨#[42]⟩ : ByteArray)]) (ok := fun _ => True) (okp := fun _ => True) ?hr ?hp (fun _ hk => hk) trivial (Below.refl _ _) (Nat.le_refl _) (by simp) ?_; (case hd => rfl); (case hg => rfl); (case hr => first | (go_simp; done) | (go_simp; rfl) | (go_simp; simp only [u8_dec_]; done) | (go_simp; simp only [u8_dec_]; rfl) | (rw [← u8_dec_]; go_simp; done)); (case hp => exact (Reps.one (show Kd.M Kd.string _ _ _ (⟨#[120]⟩ : ByteArray) [.string (⟨#[120]⟩ : ByteArray)] from rfl) (Reps.one (show Kd.M Kd.string _ _ _ (⟨#[88]⟩ : ByteArray) [.string (⟨#[88]⟩ : ByteArray)] from rfl) (Reps.one (show Kd.M Kd.string _ _ _ (⟨#[42]⟩ : ByteArray) [.string (⟨#[42]⟩ : ByteArray)] from rfl) (Reps.none _ _))))); intro v286 w5 ho6 hb hg_ hnew_; clear hg_ hnew_; (first | rw [← Ny285.out] at ho6 | (simp only [Int.reduceToNat] at ho6; rw [← Ny285.out] at ho6)); have n0_ := Aside0.mk (Kd.R_lower ho6 (below_size (by repeat (first | (with_reducible first | exact HB.out | apply below_alloc | apply pw_below_drewN | apply below_drew1) | exact HB.out)))); have n1_ := Aside0.mk (below_step (by repeat (first | (with_reducible first | exact HB.out | apply below_alloc | apply pw_below_drewN | apply below_drew1) | exact HB.out)) hb); clear HB; have HO287 := n0_; have HB := n1_; clear n0_ n1_; clear hb ho6; obtain ⟨Ao7, co7, eo7⟩ := Kd.R_slice HO287.out; subst eo7; have p288 : 0 ≤ ((ji2) : Int) := of_decide_eq_true (by first | (with_reducible assumption) | assumption); have q288 : (ji2) < (y285.length : Int) := of_decide_eq_true (by first | (with_reducible assumption) | assumption); obtain ⟨ad288, e288, hx288_0⟩ := Kd.at_string (Kd.R_reads' HO287.out).2.2 (ji2) p288 q288; cases e288; replace p288 := eq_true p288; replace q288 := eq_true q288))
        go_ret
        exact ⟨by first | rfl | (simp [errW_none, errW_some] <;> rfl) | (simp only [← hji2]; first | rfl | (simp [errW_none, errW_some] <;> rfl)) | (simp [*, errW_none, errW_some] <;> rfl), by repeat (first | (with_reducible first | exact HB.out | apply below_alloc | apply pw_below_drewN | apply below_drew1) | exact HB.out)⟩
    · rw [if_neg c4] at H
      exact absurd H (by simp)
  · rw [if_neg c3] at H
    exact absurd H (by simp)

end Go.Proofs.YtlhijjfbcgconaaDoor.P

