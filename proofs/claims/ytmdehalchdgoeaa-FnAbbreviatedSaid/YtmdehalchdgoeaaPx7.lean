-- WRITTEN by xprint.py (a program of this session, over the kit's print) out of the translation. Not trusted: Lean checks it.
import Derived.Test.YtmdehalchdgoeaaPx0
import Derived.Test.YtmdehalchdgoeaaPx1
import Derived.Test.YtmdehalchdgoeaaPx2
import Derived.Test.YtmdehalchdgoeaaPx6
namespace Go.Proofs.Ytmdehalchdgoeaa.P
open Go.RowKit Go.Proofs.YtmdehalchdgoeaaW.PrintWords Go.Proofs.YtmdehalchdgoeaaW.PrintLast Go.Proofs.YtmdehalchdgoeaaW.PrintMore
attribute [local go_sem] max2_int min2_int max_two min_two max_three min_three max_four min_four   -- for this text's walks alone
set_option linter.unusedVariables false
set_option linter.unusedSimpArgs false

/-! ### laws_FnAbbreviated: function 4 -/
def laws_FnAbbreviated.j0 : Nat → ByteArray → Int → Int → Bool → Option (Bool)
  | 0, _, _, _, _ => none
  | k + 1, x0, x1, x2, x28 => if x28 = true then (some true) else ((spec_Abbreviated.f x0 x1 x2).bind fun bt110 => (if bt110.2.2 = true then ((impl_Abbreviated.f x0 x1 x2).bind fun bt113 => ((impl_Abbreviated.f (⟨#[97]⟩ : ByteArray) 0 4).bind fun bt115 => (if bt115.2 = true then (if (bt113.2 == bt110.2.1) = true then (if bt113.2 = true then (some (bt113.1.toList == bt110.1.toList)) else (some true)) else (some false)) else (some false)))) else (some true)))
def laws_FnAbbreviated.f (k : Nat) (a0 : ByteArray) (a1 : Int) (a2 : Int) : Option (Bool) := if (a0.size : Int) > 2147483647 then (some true) else ((laws_plain9.f k (([a0] : List ByteArray))).bind fun t107 => (if t107 = true then ((laws_far9.f a1).bind fun t108 => (if t108 = true then (laws_FnAbbreviated.j0 k a0 a1 a2 true) else ((laws_far9.f a2).bind fun t109 => (laws_FnAbbreviated.j0 k a0 a1 a2 t109)))) else (laws_FnAbbreviated.j0 k a0 a1 a2 true)))
theorem laws_FnAbbreviated.mono_l : ∀ k, (∀ y0 y1 y2 y3, LeO (laws_FnAbbreviated.j0 k y0 y1 y2 y3) (laws_FnAbbreviated.j0 (k + 1) y0 y1 y2 y3))
  | 0 => fun _ _ _ _ r h => by simp [laws_FnAbbreviated.j0] at h
  | k + 1 => by
    have ih0 := laws_FnAbbreviated.mono_l k
    · intro y0 y1 y2 y3
      unfold laws_FnAbbreviated.j0
      repeat' first
      | (with_reducible exact ih0 _ _ _ _)
      | (with_reducible exact laws_plain9.mono _ _)
      | (with_reducible exact LeO.refl _)
      | (with_reducible exact LeO.none _)
      | (with_reducible refine LeO.ite ?_ ?_)
      | (with_reducible refine LeO.bind ?_ (fun _ => ?_))
      | exact ih0 _ _ _ _
      | exact laws_plain9.mono _ _
      | exact LeO.none _
      | refine LeO.ite ?_ ?_
      | refine LeO.bind ?_ (fun _ => ?_)
theorem laws_FnAbbreviated.mono : ∀ a0 a1 a2 k, LeO (laws_FnAbbreviated.f k a0 a1 a2) (laws_FnAbbreviated.f (k + 1) a0 a1 a2) := by
  intro a0 a1 a2 k
  have ih0 := laws_FnAbbreviated.mono_l k
  unfold laws_FnAbbreviated.f
  repeat' first
      | (with_reducible exact ih0 _ _ _ _)
      | (with_reducible exact laws_plain9.mono _ _)
      | (with_reducible exact LeO.refl _)
      | (with_reducible exact LeO.none _)
      | (with_reducible refine LeO.ite ?_ ?_)
      | (with_reducible refine LeO.bind ?_ (fun _ => ?_))
      | exact ih0 _ _ _ _
      | exact laws_plain9.mono _ _
      | exact LeO.none _
      | refine LeO.ite ?_ ?_
      | refine LeO.bind ?_ (fun _ => ?_)
set_option maxHeartbeats 8000000 in
set_option maxRecDepth 100000 in
theorem laws_FnAbbreviated.calls (k : Nat) (a0 : ByteArray) (a1 : Int) (a2 : Int) (r : Bool) (w : World) (h : laws_FnAbbreviated.f k a0 a1 a2 = some r) :
    Calls Try.prog 4 #[.string a0, .int .i64 a1, .int .i64 a2] w fun e w' => e = .returned (.bool r) ∧ Below w.heap.size w w' := by
  have HB := Aside0.mk (Below.refl w.heap.size w)
  have H : (if (a0.size : Int) > 2147483647 then (some true) else ((laws_plain9.f k (([a0] : List ByteArray))).bind fun t107 => (if t107 = true then ((laws_far9.f a1).bind fun t108 => (if t108 = true then (laws_FnAbbreviated.j0 k a0 a1 a2 true) else ((laws_far9.f a2).bind fun t109 => (laws_FnAbbreviated.j0 k a0 a1 a2 t109)))) else (laws_FnAbbreviated.j0 k a0 a1 a2 true)))) = some r := h
  clear h
  by_cases c4 : (a0.size : Int) > 2147483647
  · rw [if_pos c4] at H
    have c4b0 : decide (2147483647 < (a0.size : Int)) = true := decide_eq_true c4
    have c4b1 : decide (2147483647 < a0.size) = true := decide_eq_true (by omega)
    clear c4
    obtain rfl := Option.some.inj H
    go_enter Try.func4, Try.ntmps4
    go_wp2
    go_ret
    exact ⟨by first | rfl | (simp [errW_none, errW_some] <;> rfl) | (simp [*, errW_none, errW_some] <;> rfl), by repeat (first | (with_reducible first | exact HB.out | apply below_alloc | apply pw_below_drewN | apply below_drew1) | exact HB.out)⟩
  · rw [if_neg c4] at H
    have c4b0 : decide (2147483647 < (a0.size : Int)) = false := decide_eq_false c4
    have c4b1 : decide (2147483647 < a0.size) = false := decide_eq_false (by omega)
    clear c4
    have HC5 := Aside0.mk H
    clear H
    go_enter Try.func4, Try.ntmps4
    go_upto_region 3 with (fail)
    go_cut [28] (fun v28 wc => ∃ (kq : Nat) (x28_4 : Bool), v28 = .bool x28_4 ∧ Aside0 (laws_FnAbbreviated.j0 kq a0 a1 a2 x28_4 = some r) ∧ Aside0 (kq ≤ k) ∧ Aside0 (Below w.heap.size w wc))
    case first =>
      have H := HC5.out
      clear HC5
      obtain ⟨y104, hy104⟩ : ∃ y_ : List ByteArray, y_ = (([a0] : List ByteArray)) := ⟨_, rfl⟩
      replace H : ((laws_plain9.f k y104).bind fun t107 => (if t107 = true then ((laws_far9.f a1).bind fun t108 => (if t108 = true then (laws_FnAbbreviated.j0 k a0 a1 a2 true) else ((laws_far9.f a2).bind fun t109 => (laws_FnAbbreviated.j0 k a0 a1 a2 t109)))) else (laws_FnAbbreviated.j0 k a0 a1 a2 true))) = some r := by first | (rw [hy104]; with_reducible exact H) | (have H2_ := (Option.bind_some _ _).symm.trans H; rw [hy104]; with_reducible exact H2_) | (have H2_ := (Option.bind_some _ _).symm.trans H; with_reducible exact H2_) | with_reducible exact H | (rw [hy104]; exact H) | exact H
      have Ny104 := Aside0.mk hy104
      clear hy104
      replace H := Option.bind_eq_some_iff.mp H
      obtain ⟨t107, A60, H⟩ := H
      replace H : (if t107 = true then ((laws_far9.f a1).bind fun t108 => (if t108 = true then (laws_FnAbbreviated.j0 k a0 a1 a2 true) else ((laws_far9.f a2).bind fun t109 => (laws_FnAbbreviated.j0 k a0 a1 a2 t109)))) else (laws_FnAbbreviated.j0 k a0 a1 a2 true)) = some r := H
      have A6 := Aside0.mk A60
      clear A60
      by_cases c7 : t107 = true
      · subst c7
        have H1 : ((laws_far9.f a1).bind fun t108 => (if t108 = true then (laws_FnAbbreviated.j0 k a0 a1 a2 true) else ((laws_far9.f a2).bind fun t109 => (laws_FnAbbreviated.j0 k a0 a1 a2 t109)))) = some r := by rw [if_pos rfl] at H; exact H
        clear H
        have H := H1
        clear H1
        replace H := Option.bind_eq_some_iff.mp H
        obtain ⟨t108, A80, H⟩ := H
        replace H : (if t108 = true then (laws_FnAbbreviated.j0 k a0 a1 a2 true) else ((laws_far9.f a2).bind fun t109 => (laws_FnAbbreviated.j0 k a0 a1 a2 t109))) = some r := H
        have A8 := Aside0.mk A80
        clear A80
        by_cases c9 : t108 = true
        · subst c9
          have H1 : (laws_FnAbbreviated.j0 k a0 a1 a2 true) = some r := by rw [if_pos rfl] at H; exact H
          clear H
          have H := H1
          clear H1
          have H' := Aside0.mk H
          clear H
          go_wp2_with (first | ((with_reducible refine gate_dst (N := 18) rfl ?_); refine Kd.R_lit Kd.string _ 9 ?hg (N := 18) ?hd (xs := ([a0] : List ByteArray)) (inner := [.string a0]) (ok := fun _ => True) (okp := fun _ => True) ?hr ?hp (fun _ hk => hk) trivial (Below.refl _ _) (Nat.le_refl _) (by simp) ?_; (case hd => rfl); (case hg => rfl); (case hr => first | (go_simp; done) | (go_simp; rfl)); (case hp => exact (Reps.one (show Kd.M Kd.string _ _ _ a0 [.string a0] from rfl) (Reps.none _ _))); intro v105 w10 ho11 hb hg_ hnew_; clear hg_ hnew_; (first | rw [← Ny104.out] at ho11 | (simp only [Int.reduceToNat] at ho11; rw [← Ny104.out] at ho11)); have n0_ := Aside0.mk (Kd.R_lower ho11 (below_size (by repeat (first | (with_reducible first | exact HB.out | apply below_alloc | apply pw_below_drewN | apply below_drew1) | exact HB.out)))); have n1_ := Aside0.mk (below_step (by repeat (first | (with_reducible first | exact HB.out | apply below_alloc | apply pw_below_drewN | apply below_drew1) | exact HB.out)) hb); clear HB; have HO106 := n0_; have HB := n1_; clear n0_ n1_; clear hb ho11; obtain ⟨Ao12, co12, eo12⟩ := Kd.R_slice HO106.out; subst eo12) | ((with_reducible refine gate_callee (f := 6) rfl ?_); refine goesL_ (some 19) rfl rfl Try.func6 (by kernel_rfl) rfl #[.slice Ao12 y104.length co12] rfl (by (try simp only [List.map_toArray, List.map_cons, List.map_nil]); first | done | rfl | (simp only [List.length_drop, List.length_take]; rfl)) ?_; (with_reducible refine (laws_plain9.calls k _ _ y104 true _ ?side1 ?side2 A6.out).mono ?_); (case side1 => repeat (first | exact (Kd.R_reads' HO106.out).2.2 | (with_reducible refine Kd.C_alloc ?_ _) | (with_reducible refine Kd.C_drewN ?_ _) | (with_reducible refine Kd.C_drew ?_))); (case side2 => exact (Kd.R_reads' HO106.out).2.1); rintro e w' ⟨rfl, ⟨nd, rfl⟩⟩; refine ⟨_, rfl, ?_⟩) | (go_at_call 9; (with_reducible refine (laws_far9.calls a1 true _ A8.out).mono ?_); rintro e w' ⟨rfl, ⟨nd, rfl⟩⟩))
          go_meet
          case rel => exact ⟨_, (true), (by first | rfl | (simp; done) | (simp [*]; done)), H', ⟨by first | omega | exact Nat.le_refl _⟩, ⟨by repeat (first | (with_reducible first | exact HB.out | apply below_alloc | apply pw_below_drewN | apply below_drew1) | exact HB.out)⟩⟩
        · replace c9 := Bool.eq_false_iff.mpr c9
          subst c9
          have H1 : ((laws_far9.f a2).bind fun t109 => (laws_FnAbbreviated.j0 k a0 a1 a2 t109)) = some r := by rw [if_neg (show ¬ (false = true) by decide)] at H; exact H
          clear H
          have H := H1
          clear H1
          replace H := Option.bind_eq_some_iff.mp H
          obtain ⟨t109, A130, H⟩ := H
          replace H : (laws_FnAbbreviated.j0 k a0 a1 a2 t109) = some r := H
          have A13 := Aside0.mk A130
          clear A130
          have H' := Aside0.mk H
          clear H
          go_wp2_with (first | ((with_reducible refine gate_dst (N := 18) rfl ?_); refine Kd.R_lit Kd.string _ 9 ?hg (N := 18) ?hd (xs := ([a0] : List ByteArray)) (inner := [.string a0]) (ok := fun _ => True) (okp := fun _ => True) ?hr ?hp (fun _ hk => hk) trivial (Below.refl _ _) (Nat.le_refl _) (by simp) ?_; (case hd => rfl); (case hg => rfl); (case hr => first | (go_simp; done) | (go_simp; rfl)); (case hp => exact (Reps.one (show Kd.M Kd.string _ _ _ a0 [.string a0] from rfl) (Reps.none _ _))); intro v105 w14 ho15 hb hg_ hnew_; clear hg_ hnew_; (first | rw [← Ny104.out] at ho15 | (simp only [Int.reduceToNat] at ho15; rw [← Ny104.out] at ho15)); have n0_ := Aside0.mk (Kd.R_lower ho15 (below_size (by repeat (first | (with_reducible first | exact HB.out | apply below_alloc | apply pw_below_drewN | apply below_drew1) | exact HB.out)))); have n1_ := Aside0.mk (below_step (by repeat (first | (with_reducible first | exact HB.out | apply below_alloc | apply pw_below_drewN | apply below_drew1) | exact HB.out)) hb); clear HB; have HO106 := n0_; have HB := n1_; clear n0_ n1_; clear hb ho15; obtain ⟨Ao16, co16, eo16⟩ := Kd.R_slice HO106.out; subst eo16) | ((with_reducible refine gate_callee (f := 6) rfl ?_); refine goesL_ (some 19) rfl rfl Try.func6 (by kernel_rfl) rfl #[.slice Ao16 y104.length co16] rfl (by (try simp only [List.map_toArray, List.map_cons, List.map_nil]); first | done | rfl | (simp only [List.length_drop, List.length_take]; rfl)) ?_; (with_reducible refine (laws_plain9.calls k _ _ y104 true _ ?side1 ?side2 A6.out).mono ?_); (case side1 => repeat (first | exact (Kd.R_reads' HO106.out).2.2 | (with_reducible refine Kd.C_alloc ?_ _) | (with_reducible refine Kd.C_drewN ?_ _) | (with_reducible refine Kd.C_drew ?_))); (case side2 => exact (Kd.R_reads' HO106.out).2.1); rintro e w' ⟨rfl, ⟨nd, rfl⟩⟩; refine ⟨_, rfl, ?_⟩) | (go_at_call 9; (with_reducible refine (laws_far9.calls a1 false _ A8.out).mono ?_); rintro e w' ⟨rfl, ⟨nd, rfl⟩⟩) | (go_at_call 9; (with_reducible refine (laws_far9.calls a2 t109 _ A13.out).mono ?_); rintro e w' ⟨rfl, ⟨nd, rfl⟩⟩))
          go_meet
          case rel => exact ⟨_, (t109), (by first | rfl | (simp; done) | (simp [*]; done)), H', ⟨by first | omega | exact Nat.le_refl _⟩, ⟨by repeat (first | (with_reducible first | exact HB.out | apply below_alloc | apply pw_below_drewN | apply below_drew1) | exact HB.out)⟩⟩
      · replace c7 := Bool.eq_false_iff.mpr c7
        subst c7
        have H1 : (laws_FnAbbreviated.j0 k a0 a1 a2 true) = some r := by rw [if_neg (show ¬ (false = true) by decide)] at H; exact H
        clear H
        have H := H1
        clear H1
        have H' := Aside0.mk H
        clear H
        go_wp2_with (first | ((with_reducible refine gate_dst (N := 18) rfl ?_); refine Kd.R_lit Kd.string _ 9 ?hg (N := 18) ?hd (xs := ([a0] : List ByteArray)) (inner := [.string a0]) (ok := fun _ => True) (okp := fun _ => True) ?hr ?hp (fun _ hk => hk) trivial (Below.refl _ _) (Nat.le_refl _) (by simp) ?_; (case hd => rfl); (case hg => rfl); (case hr => first | (go_simp; done) | (go_simp; rfl)); (case hp => exact (Reps.one (show Kd.M Kd.string _ _ _ a0 [.string a0] from rfl) (Reps.none _ _))); intro v105 w17 ho18 hb hg_ hnew_; clear hg_ hnew_; (first | rw [← Ny104.out] at ho18 | (simp only [Int.reduceToNat] at ho18; rw [← Ny104.out] at ho18)); have n0_ := Aside0.mk (Kd.R_lower ho18 (below_size (by repeat (first | (with_reducible first | exact HB.out | apply below_alloc | apply pw_below_drewN | apply below_drew1) | exact HB.out)))); have n1_ := Aside0.mk (below_step (by repeat (first | (with_reducible first | exact HB.out | apply below_alloc | apply pw_below_drewN | apply below_drew1) | exact HB.out)) hb); clear HB; have HO106 := n0_; have HB := n1_; clear n0_ n1_; clear hb ho18; obtain ⟨Ao19, co19, eo19⟩ := Kd.R_slice HO106.out; subst eo19) | ((with_reducible refine gate_callee (f := 6) rfl ?_); refine goesL_ (some 19) rfl rfl Try.func6 (by kernel_rfl) rfl #[.slice Ao19 y104.length co19] rfl (by (try simp only [List.map_toArray, List.map_cons, List.map_nil]); first | done | rfl | (simp only [List.length_drop, List.length_take]; rfl)) ?_; (with_reducible refine (laws_plain9.calls k _ _ y104 false _ ?side1 ?side2 A6.out).mono ?_); (case side1 => repeat (first | exact (Kd.R_reads' HO106.out).2.2 | (with_reducible refine Kd.C_alloc ?_ _) | (with_reducible refine Kd.C_drewN ?_ _) | (with_reducible refine Kd.C_drew ?_))); (case side2 => exact (Kd.R_reads' HO106.out).2.1); rintro e w' ⟨rfl, ⟨nd, rfl⟩⟩; refine ⟨_, rfl, ?_⟩))
        go_meet
        case rel => exact ⟨_, (true), (by first | rfl | (simp; done) | (simp [*]; done)), H', ⟨by first | omega | exact Nat.le_refl _⟩, ⟨by repeat (first | (with_reducible first | exact HB.out | apply below_alloc | apply pw_below_drewN | apply below_drew1) | exact HB.out)⟩⟩
    case rest =>
      clear HC5
      try clear p2
      try clear c4
      try clear c4b0
      try clear c4b1
      try clear c6
      try clear c7
      try clear c9
      obtain ⟨kq, x28_4, rfl, HA, HJ4, HB⟩ := hcut
      cases kq with
      | zero => exact absurd HA.out (by simp [laws_FnAbbreviated.j0])
      | succ kj4 =>
        have H := HA.out
        clear HA
        simp only [laws_FnAbbreviated.j0] at H
        by_cases c20 : x28_4 = true
        · subst c20
          have H1 : (some true) = some r := by rw [if_pos rfl] at H; exact H
          clear H
          have H := H1
          clear H1
          obtain rfl := Option.some.inj H
          go_wp2
          go_ret
          exact ⟨by first | rfl | (simp [errW_none, errW_some] <;> rfl) | (simp [*, errW_none, errW_some] <;> rfl), by repeat (first | (with_reducible first | exact HB.out | apply below_alloc | apply pw_below_drewN | apply below_drew1) | exact HB.out)⟩
        · replace c20 := Bool.eq_false_iff.mpr c20
          subst c20
          have H1 : ((spec_Abbreviated.f a0 a1 a2).bind fun bt110 => (if bt110.2.2 = true then ((impl_Abbreviated.f a0 a1 a2).bind fun bt113 => ((impl_Abbreviated.f (⟨#[97]⟩ : ByteArray) 0 4).bind fun bt115 => (if bt115.2 = true then (if (bt113.2 == bt110.2.1) = true then (if bt113.2 = true then (some (bt113.1.toList == bt110.1.toList)) else (some true)) else (some false)) else (some false)))) else (some true))) = some r := by rw [if_neg (show ¬ (false = true) by decide)] at H; exact H
          clear H
          have H := H1
          clear H1
          replace H := Option.bind_eq_some_iff.mp H
          obtain ⟨⟨t110, t111, t112⟩, A210, H⟩ := H
          replace H : (if t112 = true then ((impl_Abbreviated.f a0 a1 a2).bind fun bt113 => ((impl_Abbreviated.f (⟨#[97]⟩ : ByteArray) 0 4).bind fun bt115 => (if bt115.2 = true then (if (bt113.2 == t111) = true then (if bt113.2 = true then (some (bt113.1.toList == t110.toList)) else (some true)) else (some false)) else (some false)))) else (some true)) = some r := H
          have A21 := Aside0.mk A210
          clear A210
          by_cases c22 : t112 = true
          · subst c22
            have H1 : ((impl_Abbreviated.f a0 a1 a2).bind fun bt113 => ((impl_Abbreviated.f (⟨#[97]⟩ : ByteArray) 0 4).bind fun bt115 => (if bt115.2 = true then (if (bt113.2 == t111) = true then (if bt113.2 = true then (some (bt113.1.toList == t110.toList)) else (some true)) else (some false)) else (some false)))) = some r := by rw [if_pos rfl] at H; exact H
            clear H
            have H := H1
            clear H1
            replace H := Option.bind_eq_some_iff.mp H
            obtain ⟨⟨t113, t114⟩, A230, H⟩ := H
            replace H : ((impl_Abbreviated.f (⟨#[97]⟩ : ByteArray) 0 4).bind fun bt115 => (if bt115.2 = true then (if (t114 == t111) = true then (if t114 = true then (some (t113.toList == t110.toList)) else (some true)) else (some false)) else (some false))) = some r := H
            have A23 := Aside0.mk A230
            clear A230
            replace H := Option.bind_eq_some_iff.mp H
            obtain ⟨⟨t115, t116⟩, A240, H⟩ := H
            replace H : (if t116 = true then (if (t114 == t111) = true then (if t114 = true then (some (t113.toList == t110.toList)) else (some true)) else (some false)) else (some false)) = some r := H
            have A24 := Aside0.mk A240
            clear A240
            by_cases c25 : t116 = true
            · subst c25
              have H1 : (if (t114 == t111) = true then (if t114 = true then (some (t113.toList == t110.toList)) else (some true)) else (some false)) = some r := by rw [if_pos rfl] at H; exact H
              clear H
              have H := H1
              clear H1
              by_cases c26 : (t114 == t111) = true
              · rw [if_pos c26] at H
                have c26b0 : (t114 == t111) = true := c26
                (try (have c26b1 : decide (t114 = t111) = true := by simpa using c26))
                (try (have c26b2 : (t114 == t111) = true := by simpa using c26))
                clear c26
                by_cases c27 : t114 = true
                · subst c27
                  have H1 : (some (t113.toList == t110.toList)) = some r := by rw [if_pos rfl] at H; exact H
                  clear H
                  have H := H1
                  clear H1
                  obtain rfl := Option.some.inj H
                  go_wp2_with (first | ((with_reducible refine gate_callee (f := 10) rfl ?_); refine goesL_ (some 33) rfl rfl Try.func10 (by kernel_rfl) rfl #[.string a0, .int .i64 a1, .int .i64 a2] rfl (by (try simp only [List.map_toArray, List.map_cons, List.map_nil]); first | done | rfl | (simp only [List.length_drop, List.length_take]; rfl)) ?_; (with_reducible refine (spec_Abbreviated.calls a0 a1 a2 t110 t111 true _ A21.out).mono ?_); rintro e w' ⟨rfl, ⟨nd, rfl⟩⟩; refine ⟨_, rfl, ?_⟩) | ((with_reducible refine gate_callee (f := 11) rfl ?_); refine goesL_ (some 43) rfl rfl Try.func11 (by kernel_rfl) rfl #[.string a0, .int .i64 a1, .int .i64 a2] rfl (by (try simp only [List.map_toArray, List.map_cons, List.map_nil]); first | done | rfl | (simp only [List.length_drop, List.length_take]; rfl)) ?_; (with_reducible refine (impl_Abbreviated.calls a0 a1 a2 t113 true _ A23.out).mono ?_); rintro e w28 ⟨rfl, hb⟩; refine ⟨_, rfl, ?_⟩; have n0_ := Aside0.mk (below_step (by repeat (first | (with_reducible first | exact HB.out | apply below_alloc | apply pw_below_drewN | apply below_drew1) | exact HB.out)) hb); clear HB; have HB := n0_; clear n0_; (try clear hb); (try clear hb2); (try clear hk); (try clear hi)) | ((with_reducible refine gate_callee (f := 11) rfl ?_); refine goesL_ (some 47) rfl rfl Try.func11 (by kernel_rfl) rfl #[.string (⟨#[97]⟩ : ByteArray), .int .i64 0, .int .i64 4] rfl (by (try simp only [List.map_toArray, List.map_cons, List.map_nil]); first | done | rfl | (simp only [List.length_drop, List.length_take]; rfl)) ?_; (with_reducible refine (impl_Abbreviated.calls (⟨#[97]⟩ : ByteArray) 0 4 t115 true _ A24.out).mono ?_); rintro e w29 ⟨rfl, hb⟩; refine ⟨_, rfl, ?_⟩; have n0_ := Aside0.mk (below_step (by repeat (first | (with_reducible first | exact HB.out | apply below_alloc | apply pw_below_drewN | apply below_drew1) | exact HB.out)) hb); clear HB; have HB := n0_; clear n0_; (try clear hb); (try clear hb2); (try clear hk); (try clear hi)))
                  go_ret
                  exact ⟨by first | rfl | (simp [errW_none, errW_some] <;> rfl) | (simp [*, errW_none, errW_some] <;> rfl), by repeat (first | (with_reducible first | exact HB.out | apply below_alloc | apply pw_below_drewN | apply below_drew1) | exact HB.out)⟩
                · replace c27 := Bool.eq_false_iff.mpr c27
                  subst c27
                  have H1 : (some true) = some r := by rw [if_neg (show ¬ (false = true) by decide)] at H; exact H
                  clear H
                  have H := H1
                  clear H1
                  obtain rfl := Option.some.inj H
                  go_wp2_with (first | ((with_reducible refine gate_callee (f := 10) rfl ?_); refine goesL_ (some 33) rfl rfl Try.func10 (by kernel_rfl) rfl #[.string a0, .int .i64 a1, .int .i64 a2] rfl (by (try simp only [List.map_toArray, List.map_cons, List.map_nil]); first | done | rfl | (simp only [List.length_drop, List.length_take]; rfl)) ?_; (with_reducible refine (spec_Abbreviated.calls a0 a1 a2 t110 t111 true _ A21.out).mono ?_); rintro e w' ⟨rfl, ⟨nd, rfl⟩⟩; refine ⟨_, rfl, ?_⟩) | ((with_reducible refine gate_callee (f := 11) rfl ?_); refine goesL_ (some 43) rfl rfl Try.func11 (by kernel_rfl) rfl #[.string a0, .int .i64 a1, .int .i64 a2] rfl (by (try simp only [List.map_toArray, List.map_cons, List.map_nil]); first | done | rfl | (simp only [List.length_drop, List.length_take]; rfl)) ?_; (with_reducible refine (impl_Abbreviated.calls a0 a1 a2 t113 false _ A23.out).mono ?_); rintro e w30 ⟨rfl, hb⟩; refine ⟨_, rfl, ?_⟩; have n0_ := Aside0.mk (below_step (by repeat (first | (with_reducible first | exact HB.out | apply below_alloc | apply pw_below_drewN | apply below_drew1) | exact HB.out)) hb); clear HB; have HB := n0_; clear n0_; (try clear hb); (try clear hb2); (try clear hk); (try clear hi)) | ((with_reducible refine gate_callee (f := 11) rfl ?_); refine goesL_ (some 47) rfl rfl Try.func11 (by kernel_rfl) rfl #[.string (⟨#[97]⟩ : ByteArray), .int .i64 0, .int .i64 4] rfl (by (try simp only [List.map_toArray, List.map_cons, List.map_nil]); first | done | rfl | (simp only [List.length_drop, List.length_take]; rfl)) ?_; (with_reducible refine (impl_Abbreviated.calls (⟨#[97]⟩ : ByteArray) 0 4 t115 true _ A24.out).mono ?_); rintro e w31 ⟨rfl, hb⟩; refine ⟨_, rfl, ?_⟩; have n0_ := Aside0.mk (below_step (by repeat (first | (with_reducible first | exact HB.out | apply below_alloc | apply pw_below_drewN | apply below_drew1) | exact HB.out)) hb); clear HB; have HB := n0_; clear n0_; (try clear hb); (try clear hb2); (try clear hk); (try clear hi)))
                  go_ret
                  exact ⟨by first | rfl | (simp [errW_none, errW_some] <;> rfl) | (simp [*, errW_none, errW_some] <;> rfl), by repeat (first | (with_reducible first | exact HB.out | apply below_alloc | apply pw_below_drewN | apply below_drew1) | exact HB.out)⟩
              · rw [if_neg c26] at H
                have c26b0 : (t114 == t111) = false := by simpa using c26
                (try (have c26b1 : decide (t114 = t111) = false := by simpa using c26))
                (try (have c26b2 : (t114 == t111) = false := by simpa using c26))
                (try (have c26b3 : ¬ (t114 = t111) := by simpa using c26))
                clear c26
                obtain rfl := Option.some.inj H
                go_wp2_with (first | ((with_reducible refine gate_callee (f := 10) rfl ?_); refine goesL_ (some 33) rfl rfl Try.func10 (by kernel_rfl) rfl #[.string a0, .int .i64 a1, .int .i64 a2] rfl (by (try simp only [List.map_toArray, List.map_cons, List.map_nil]); first | done | rfl | (simp only [List.length_drop, List.length_take]; rfl)) ?_; (with_reducible refine (spec_Abbreviated.calls a0 a1 a2 t110 t111 true _ A21.out).mono ?_); rintro e w' ⟨rfl, ⟨nd, rfl⟩⟩; refine ⟨_, rfl, ?_⟩) | ((with_reducible refine gate_callee (f := 11) rfl ?_); refine goesL_ (some 43) rfl rfl Try.func11 (by kernel_rfl) rfl #[.string a0, .int .i64 a1, .int .i64 a2] rfl (by (try simp only [List.map_toArray, List.map_cons, List.map_nil]); first | done | rfl | (simp only [List.length_drop, List.length_take]; rfl)) ?_; (with_reducible refine (impl_Abbreviated.calls a0 a1 a2 t113 t114 _ A23.out).mono ?_); rintro e w32 ⟨rfl, hb⟩; refine ⟨_, rfl, ?_⟩; have n0_ := Aside0.mk (below_step (by repeat (first | (with_reducible first | exact HB.out | apply below_alloc | apply pw_below_drewN | apply below_drew1) | exact HB.out)) hb); clear HB; have HB := n0_; clear n0_; (try clear hb); (try clear hb2); (try clear hk); (try clear hi)) | ((with_reducible refine gate_callee (f := 11) rfl ?_); refine goesL_ (some 47) rfl rfl Try.func11 (by kernel_rfl) rfl #[.string (⟨#[97]⟩ : ByteArray), .int .i64 0, .int .i64 4] rfl (by (try simp only [List.map_toArray, List.map_cons, List.map_nil]); first | done | rfl | (simp only [List.length_drop, List.length_take]; rfl)) ?_; (with_reducible refine (impl_Abbreviated.calls (⟨#[97]⟩ : ByteArray) 0 4 t115 true _ A24.out).mono ?_); rintro e w33 ⟨rfl, hb⟩; refine ⟨_, rfl, ?_⟩; have n0_ := Aside0.mk (below_step (by repeat (first | (with_reducible first | exact HB.out | apply below_alloc | apply pw_below_drewN | apply below_drew1) | exact HB.out)) hb); clear HB; have HB := n0_; clear n0_; (try clear hb); (try clear hb2); (try clear hk); (try clear hi)))
                go_ret
                exact ⟨by first | rfl | (simp [errW_none, errW_some] <;> rfl) | (simp [*, errW_none, errW_some] <;> rfl), by repeat (first | (with_reducible first | exact HB.out | apply below_alloc | apply pw_below_drewN | apply below_drew1) | exact HB.out)⟩
            · replace c25 := Bool.eq_false_iff.mpr c25
              subst c25
              have H1 : (some false) = some r := by rw [if_neg (show ¬ (false = true) by decide)] at H; exact H
              clear H
              have H := H1
              clear H1
              obtain rfl := Option.some.inj H
              go_wp2_with (first | ((with_reducible refine gate_callee (f := 10) rfl ?_); refine goesL_ (some 33) rfl rfl Try.func10 (by kernel_rfl) rfl #[.string a0, .int .i64 a1, .int .i64 a2] rfl (by (try simp only [List.map_toArray, List.map_cons, List.map_nil]); first | done | rfl | (simp only [List.length_drop, List.length_take]; rfl)) ?_; (with_reducible refine (spec_Abbreviated.calls a0 a1 a2 t110 t111 true _ A21.out).mono ?_); rintro e w' ⟨rfl, ⟨nd, rfl⟩⟩; refine ⟨_, rfl, ?_⟩) | ((with_reducible refine gate_callee (f := 11) rfl ?_); refine goesL_ (some 43) rfl rfl Try.func11 (by kernel_rfl) rfl #[.string a0, .int .i64 a1, .int .i64 a2] rfl (by (try simp only [List.map_toArray, List.map_cons, List.map_nil]); first | done | rfl | (simp only [List.length_drop, List.length_take]; rfl)) ?_; (with_reducible refine (impl_Abbreviated.calls a0 a1 a2 t113 t114 _ A23.out).mono ?_); rintro e w34 ⟨rfl, hb⟩; refine ⟨_, rfl, ?_⟩; have n0_ := Aside0.mk (below_step (by repeat (first | (with_reducible first | exact HB.out | apply below_alloc | apply pw_below_drewN | apply below_drew1) | exact HB.out)) hb); clear HB; have HB := n0_; clear n0_; (try clear hb); (try clear hb2); (try clear hk); (try clear hi)) | ((with_reducible refine gate_callee (f := 11) rfl ?_); refine goesL_ (some 47) rfl rfl Try.func11 (by kernel_rfl) rfl #[.string (⟨#[97]⟩ : ByteArray), .int .i64 0, .int .i64 4] rfl (by (try simp only [List.map_toArray, List.map_cons, List.map_nil]); first | done | rfl | (simp only [List.length_drop, List.length_take]; rfl)) ?_; (with_reducible refine (impl_Abbreviated.calls (⟨#[97]⟩ : ByteArray) 0 4 t115 false _ A24.out).mono ?_); rintro e w35 ⟨rfl, hb⟩; refine ⟨_, rfl, ?_⟩; have n0_ := Aside0.mk (below_step (by repeat (first | (with_reducible first | exact HB.out | apply below_alloc | apply pw_below_drewN | apply below_drew1) | exact HB.out)) hb); clear HB; have HB := n0_; clear n0_; (try clear hb); (try clear hb2); (try clear hk); (try clear hi)))
              go_ret
              exact ⟨by first | rfl | (simp [errW_none, errW_some] <;> rfl) | (simp [*, errW_none, errW_some] <;> rfl), by repeat (first | (with_reducible first | exact HB.out | apply below_alloc | apply pw_below_drewN | apply below_drew1) | exact HB.out)⟩
          · replace c22 := Bool.eq_false_iff.mpr c22
            subst c22
            have H1 : (some true) = some r := by rw [if_neg (show ¬ (false = true) by decide)] at H; exact H
            clear H
            have H := H1
            clear H1
            obtain rfl := Option.some.inj H
            go_wp2_with (first | ((with_reducible refine gate_callee (f := 10) rfl ?_); refine goesL_ (some 33) rfl rfl Try.func10 (by kernel_rfl) rfl #[.string a0, .int .i64 a1, .int .i64 a2] rfl (by (try simp only [List.map_toArray, List.map_cons, List.map_nil]); first | done | rfl | (simp only [List.length_drop, List.length_take]; rfl)) ?_; (with_reducible refine (spec_Abbreviated.calls a0 a1 a2 t110 t111 false _ A21.out).mono ?_); rintro e w' ⟨rfl, ⟨nd, rfl⟩⟩; refine ⟨_, rfl, ?_⟩))
            go_ret
            exact ⟨by first | rfl | (simp [errW_none, errW_some] <;> rfl) | (simp [*, errW_none, errW_some] <;> rfl), by repeat (first | (with_reducible first | exact HB.out | apply below_alloc | apply pw_below_drewN | apply below_drew1) | exact HB.out)⟩

/-- THE ONE PURE STATEMENT of laws_FnAbbreviated: yours. -/
def laws_FnAbbreviated.Pure : Prop := ∀ (a0 : ByteArray) (a1 : Int) (a2 : Int), a0.size ≤ 140737488351232 → (Lit.int .i64 a1).wf = true → (Lit.int .i64 a2).wf = true → ∃ k, laws_FnAbbreviated.f k a0 a1 a2 = some true
theorem laws_FnAbbreviated.walk (P : laws_FnAbbreviated.Pure) (a0 : ByteArray) (a1 : Int) (a2 : Int) (w : World) (w0 : a0.size ≤ 140737488351232) (w1 : (Lit.int .i64 a1).wf = true) (w2 : (Lit.int .i64 a2).wf = true) :
    Calls Try.prog 4 #[.string a0, .int .i64 a1, .int .i64 a2] w fun e w' => e = .returned (.bool true) ∧ Below w.heap.size w w' := by
  obtain ⟨k, h⟩ := P a0 a1 a2 w0 w1 w2
  refine (laws_FnAbbreviated.calls k a0 a1 a2 true w h).mono ?_
  rintro e w' ⟨rfl, hd⟩
  exact ⟨rfl, hd⟩

end Go.Proofs.Ytmdehalchdgoeaa.P
