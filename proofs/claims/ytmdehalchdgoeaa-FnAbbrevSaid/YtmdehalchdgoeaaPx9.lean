-- WRITTEN by xprint.py (a program of this session, over the kit's print) out of the translation. Not trusted: Lean checks it.
import Derived.Test.YtmdehalchdgoeaaPx0
import Derived.Test.YtmdehalchdgoeaaPx1
import Derived.Test.YtmdehalchdgoeaaPx2
import Derived.Test.YtmdehalchdgoeaaPx8
namespace Go.Proofs.Ytmdehalchdgoeaa.P
open Go.RowKit Go.Proofs.YtmdehalchdgoeaaW.PrintWords Go.Proofs.YtmdehalchdgoeaaW.PrintLast Go.Proofs.YtmdehalchdgoeaaW.PrintMore
attribute [local go_sem] max2_int min2_int max_two min_two max_three min_three max_four min_four   -- for this text's walks alone
set_option linter.unusedVariables false
set_option linter.unusedSimpArgs false

/-! ### sprig_Abbrev: function 16 -/
def sprig_Abbrev.f (a0 : Int) (a1 : ByteArray) : Option (ByteArray) := (sprig_abbrev.f a0 a1).bind fun t117 => (some t117)
set_option maxHeartbeats 8000000 in
set_option maxRecDepth 100000 in
theorem sprig_Abbrev.calls (a0 : Int) (a1 : ByteArray) (r : ByteArray) (w : World) (h : sprig_Abbrev.f a0 a1 = some r) :
    Calls Try.prog 16 #[.int .i64 a0, .string a1] w fun e w' => e = .returned (.string r) ∧ Below w.heap.size w w' := by
  have HB := Aside0.mk (Below.refl w.heap.size w)
  have H : ((sprig_abbrev.f a0 a1).bind fun t117 => (some t117)) = some r := h
  clear h
  replace H := Option.bind_eq_some_iff.mp H
  obtain ⟨t117, A30, H⟩ := H
  replace H : (some t117) = some r := H
  have A3 := Aside0.mk A30
  clear A30
  obtain rfl := Option.some.inj H
  go_enter Try.func16, Try.ntmps16
  go_wp2_with (first | ((with_reducible refine gate_callee (f := 20) rfl ?_); refine goesL_ (some 7) rfl rfl Try.func20 (by kernel_rfl) rfl #[.int .i64 a0, .string a1] rfl (by (try simp only [List.map_toArray, List.map_cons, List.map_nil]); first | done | rfl | (simp only [List.length_drop, List.length_take]; rfl)) ?_; (with_reducible refine (sprig_abbrev.calls a0 a1 t117 _ A3.out).mono ?_); rintro e w4 ⟨rfl, hb⟩; refine ⟨_, rfl, ?_⟩; have n0_ := Aside0.mk (below_step (by repeat (first | (with_reducible first | exact HB.out | apply below_alloc | apply pw_below_drewN | apply below_drew1) | exact HB.out)) hb); clear HB; have HB := n0_; clear n0_; (try clear hb); (try clear hb2); (try clear hk); (try clear hi)))
  go_ret
  exact ⟨by first | rfl | (simp [errW_none, errW_some] <;> rfl) | (simp [*, errW_none, errW_some] <;> rfl), by repeat (first | (with_reducible first | exact HB.out | apply below_alloc | apply pw_below_drewN | apply below_drew1) | exact HB.out)⟩

/-! ### impl_Abbrev: function 12 -/
def impl_Abbrev.f (a0 : Int) (a1 : ByteArray) : Option (ByteArray) := (sprig_Abbrev.f a0 a1).bind fun t118 => (some t118)
set_option maxHeartbeats 8000000 in
set_option maxRecDepth 100000 in
theorem impl_Abbrev.calls (a0 : Int) (a1 : ByteArray) (r : ByteArray) (w : World) (h : impl_Abbrev.f a0 a1 = some r) :
    Calls Try.prog 12 #[.int .i64 a0, .string a1] w fun e w' => e = .returned (.string r) ∧ Below w.heap.size w w' := by
  have HB := Aside0.mk (Below.refl w.heap.size w)
  have H : ((sprig_Abbrev.f a0 a1).bind fun t118 => (some t118)) = some r := h
  clear h
  replace H := Option.bind_eq_some_iff.mp H
  obtain ⟨t118, A30, H⟩ := H
  replace H : (some t118) = some r := H
  have A3 := Aside0.mk A30
  clear A30
  obtain rfl := Option.some.inj H
  go_enter Try.func12, Try.ntmps12
  go_wp2_with (first | ((with_reducible refine gate_callee (f := 16) rfl ?_); refine goesL_ (some 7) rfl rfl Try.func16 (by kernel_rfl) rfl #[.int .i64 a0, .string a1] rfl (by (try simp only [List.map_toArray, List.map_cons, List.map_nil]); first | done | rfl | (simp only [List.length_drop, List.length_take]; rfl)) ?_; (with_reducible refine (sprig_Abbrev.calls a0 a1 t118 _ A3.out).mono ?_); rintro e w4 ⟨rfl, hb⟩; refine ⟨_, rfl, ?_⟩; have n0_ := Aside0.mk (below_step (by repeat (first | (with_reducible first | exact HB.out | apply below_alloc | apply pw_below_drewN | apply below_drew1) | exact HB.out)) hb); clear HB; have HB := n0_; clear n0_; (try clear hb); (try clear hb2); (try clear hk); (try clear hi)))
  go_ret
  exact ⟨by first | rfl | (simp [errW_none, errW_some] <;> rfl) | (simp [*, errW_none, errW_some] <;> rfl), by repeat (first | (with_reducible first | exact HB.out | apply below_alloc | apply pw_below_drewN | apply below_drew1) | exact HB.out)⟩

/-! ### laws_FnAbbrev: function 5 -/
def laws_FnAbbrev.j0 : Nat → Int → ByteArray → Bool → Option (Bool)
  | 0, _, _, _ => none
  | k + 1, x0, x1, x18 => if x18 = true then (some true) else ((spec_Abbreviated.f x1 0 x0).bind fun bt124 => (if bt124.2.2 = true then (if bt124.2.1 = true then ((impl_Abbrev.f x0 x1).bind fun t127 => (if t127.toList = bt124.1.toList then ((impl_Abbrev.f 4 (⟨#[97, 98, 99, 100, 101]⟩ : ByteArray)).bind fun t128 => (some (t128.toList == ([97, 46, 46, 46] : List UInt8)))) else (some false))) else ((impl_Abbrev.f x0 x1).bind fun t129 => (if t129.toList = x1.toList then ((impl_Abbrev.f 4 (⟨#[97, 98, 99, 100, 101]⟩ : ByteArray)).bind fun t130 => (some (t130.toList == ([97, 46, 46, 46] : List UInt8)))) else (some false)))) else (some true)))
def laws_FnAbbrev.f (k : Nat) (a0 : Int) (a1 : ByteArray) : Option (Bool) := if (a1.size : Int) > 2147483647 then (some true) else ((laws_plain9.f k (([a1] : List ByteArray))).bind fun t122 => (if t122 = true then ((laws_far9.f a0).bind fun t123 => (laws_FnAbbrev.j0 k a0 a1 t123)) else (laws_FnAbbrev.j0 k a0 a1 true)))
theorem laws_FnAbbrev.mono_l : ∀ k, (∀ y0 y1 y2, LeO (laws_FnAbbrev.j0 k y0 y1 y2) (laws_FnAbbrev.j0 (k + 1) y0 y1 y2))
  | 0 => fun _ _ _ r h => by simp [laws_FnAbbrev.j0] at h
  | k + 1 => by
    have ih0 := laws_FnAbbrev.mono_l k
    · intro y0 y1 y2
      unfold laws_FnAbbrev.j0
      repeat' first
      | (with_reducible exact ih0 _ _ _)
      | (with_reducible exact laws_plain9.mono _ _)
      | (with_reducible exact LeO.refl _)
      | (with_reducible exact LeO.none _)
      | (with_reducible refine LeO.ite ?_ ?_)
      | (with_reducible refine LeO.bind ?_ (fun _ => ?_))
      | exact ih0 _ _ _
      | exact laws_plain9.mono _ _
      | exact LeO.none _
      | refine LeO.ite ?_ ?_
      | refine LeO.bind ?_ (fun _ => ?_)
theorem laws_FnAbbrev.mono : ∀ a0 a1 k, LeO (laws_FnAbbrev.f k a0 a1) (laws_FnAbbrev.f (k + 1) a0 a1) := by
  intro a0 a1 k
  have ih0 := laws_FnAbbrev.mono_l k
  unfold laws_FnAbbrev.f
  repeat' first
      | (with_reducible exact ih0 _ _ _)
      | (with_reducible exact laws_plain9.mono _ _)
      | (with_reducible exact LeO.refl _)
      | (with_reducible exact LeO.none _)
      | (with_reducible refine LeO.ite ?_ ?_)
      | (with_reducible refine LeO.bind ?_ (fun _ => ?_))
      | exact ih0 _ _ _
      | exact laws_plain9.mono _ _
      | exact LeO.none _
      | refine LeO.ite ?_ ?_
      | refine LeO.bind ?_ (fun _ => ?_)
set_option maxHeartbeats 8000000 in
set_option maxRecDepth 100000 in
theorem laws_FnAbbrev.calls (k : Nat) (a0 : Int) (a1 : ByteArray) (r : Bool) (w : World) (h : laws_FnAbbrev.f k a0 a1 = some r) :
    Calls Try.prog 5 #[.int .i64 a0, .string a1] w fun e w' => e = .returned (.bool r) ∧ Below w.heap.size w w' := by
  have HB := Aside0.mk (Below.refl w.heap.size w)
  have H : (if (a1.size : Int) > 2147483647 then (some true) else ((laws_plain9.f k (([a1] : List ByteArray))).bind fun t122 => (if t122 = true then ((laws_far9.f a0).bind fun t123 => (laws_FnAbbrev.j0 k a0 a1 t123)) else (laws_FnAbbrev.j0 k a0 a1 true)))) = some r := h
  clear h
  by_cases c3 : (a1.size : Int) > 2147483647
  · rw [if_pos c3] at H
    have c3b0 : decide (2147483647 < (a1.size : Int)) = true := decide_eq_true c3
    have c3b1 : decide (2147483647 < a1.size) = true := decide_eq_true (by omega)
    clear c3
    obtain rfl := Option.some.inj H
    go_enter Try.func5, Try.ntmps5
    go_wp2
    go_ret
    exact ⟨by first | rfl | (simp [errW_none, errW_some] <;> rfl) | (simp [*, errW_none, errW_some] <;> rfl), by repeat (first | (with_reducible first | exact HB.out | apply below_alloc | apply pw_below_drewN | apply below_drew1) | exact HB.out)⟩
  · rw [if_neg c3] at H
    have c3b0 : decide (2147483647 < (a1.size : Int)) = false := decide_eq_false c3
    have c3b1 : decide (2147483647 < a1.size) = false := decide_eq_false (by omega)
    clear c3
    have HC4 := Aside0.mk H
    clear H
    go_enter Try.func5, Try.ntmps5
    go_upto_region 3 with (fail)
    go_cut [18] (fun v18 wc => ∃ (kq : Nat) (x18_3 : Bool), v18 = .bool x18_3 ∧ Aside0 (laws_FnAbbrev.j0 kq a0 a1 x18_3 = some r) ∧ Aside0 (kq ≤ k) ∧ Aside0 (Below w.heap.size w wc))
    case first =>
      have H := HC4.out
      clear HC4
      obtain ⟨y119, hy119⟩ : ∃ y_ : List ByteArray, y_ = (([a1] : List ByteArray)) := ⟨_, rfl⟩
      replace H : ((laws_plain9.f k y119).bind fun t122 => (if t122 = true then ((laws_far9.f a0).bind fun t123 => (laws_FnAbbrev.j0 k a0 a1 t123)) else (laws_FnAbbrev.j0 k a0 a1 true))) = some r := by first | (rw [hy119]; with_reducible exact H) | (have H2_ := (Option.bind_some _ _).symm.trans H; rw [hy119]; with_reducible exact H2_) | (have H2_ := (Option.bind_some _ _).symm.trans H; with_reducible exact H2_) | with_reducible exact H | (rw [hy119]; exact H) | exact H
      have Ny119 := Aside0.mk hy119
      clear hy119
      replace H := Option.bind_eq_some_iff.mp H
      obtain ⟨t122, A50, H⟩ := H
      replace H : (if t122 = true then ((laws_far9.f a0).bind fun t123 => (laws_FnAbbrev.j0 k a0 a1 t123)) else (laws_FnAbbrev.j0 k a0 a1 true)) = some r := H
      have A5 := Aside0.mk A50
      clear A50
      by_cases c6 : t122 = true
      · subst c6
        have H1 : ((laws_far9.f a0).bind fun t123 => (laws_FnAbbrev.j0 k a0 a1 t123)) = some r := by rw [if_pos rfl] at H; exact H
        clear H
        have H := H1
        clear H1
        replace H := Option.bind_eq_some_iff.mp H
        obtain ⟨t123, A70, H⟩ := H
        replace H : (laws_FnAbbrev.j0 k a0 a1 t123) = some r := H
        have A7 := Aside0.mk A70
        clear A70
        have H' := Aside0.mk H
        clear H
        go_wp2_with (first | ((with_reducible refine gate_dst (N := 12) rfl ?_); refine Kd.R_lit Kd.string _ 9 ?hg (N := 12) ?hd (xs := ([a1] : List ByteArray)) (inner := [.string a1]) (ok := fun _ => True) (okp := fun _ => True) ?hr ?hp (fun _ hk => hk) trivial (Below.refl _ _) (Nat.le_refl _) (by simp) ?_; (case hd => rfl); (case hg => rfl); (case hr => first | (go_simp; done) | (go_simp; rfl)); (case hp => exact (Reps.one (show Kd.M Kd.string _ _ _ a1 [.string a1] from rfl) (Reps.none _ _))); intro v120 w8 ho9 hb hg_ hnew_; clear hg_ hnew_; (first | rw [← Ny119.out] at ho9 | (simp only [Int.reduceToNat] at ho9; rw [← Ny119.out] at ho9)); have n0_ := Aside0.mk (Kd.R_lower ho9 (below_size (by repeat (first | (with_reducible first | exact HB.out | apply below_alloc | apply pw_below_drewN | apply below_drew1) | exact HB.out)))); have n1_ := Aside0.mk (below_step (by repeat (first | (with_reducible first | exact HB.out | apply below_alloc | apply pw_below_drewN | apply below_drew1) | exact HB.out)) hb); clear HB; have HO121 := n0_; have HB := n1_; clear n0_ n1_; clear hb ho9; obtain ⟨Ao10, co10, eo10⟩ := Kd.R_slice HO121.out; subst eo10) | ((with_reducible refine gate_callee (f := 6) rfl ?_); refine goesL_ (some 13) rfl rfl Try.func6 (by kernel_rfl) rfl #[.slice Ao10 y119.length co10] rfl (by (try simp only [List.map_toArray, List.map_cons, List.map_nil]); first | done | rfl | (simp only [List.length_drop, List.length_take]; rfl)) ?_; (with_reducible refine (laws_plain9.calls k _ _ y119 true _ ?side1 ?side2 A5.out).mono ?_); (case side1 => repeat (first | exact (Kd.R_reads' HO121.out).2.2 | (with_reducible refine Kd.C_alloc ?_ _) | (with_reducible refine Kd.C_drewN ?_ _) | (with_reducible refine Kd.C_drew ?_))); (case side2 => exact (Kd.R_reads' HO121.out).2.1); rintro e w' ⟨rfl, ⟨nd, rfl⟩⟩; refine ⟨_, rfl, ?_⟩) | (go_at_call 9; (with_reducible refine (laws_far9.calls a0 t123 _ A7.out).mono ?_); rintro e w' ⟨rfl, ⟨nd, rfl⟩⟩))
        go_meet
        case rel => exact ⟨_, (t123), (by first | rfl | (simp; done) | (simp [*]; done)), H', ⟨by first | omega | exact Nat.le_refl _⟩, ⟨by repeat (first | (with_reducible first | exact HB.out | apply below_alloc | apply pw_below_drewN | apply below_drew1) | exact HB.out)⟩⟩
      · replace c6 := Bool.eq_false_iff.mpr c6
        subst c6
        have H1 : (laws_FnAbbrev.j0 k a0 a1 true) = some r := by rw [if_neg (show ¬ (false = true) by decide)] at H; exact H
        clear H
        have H := H1
        clear H1
        have H' := Aside0.mk H
        clear H
        go_wp2_with (first | ((with_reducible refine gate_dst (N := 12) rfl ?_); refine Kd.R_lit Kd.string _ 9 ?hg (N := 12) ?hd (xs := ([a1] : List ByteArray)) (inner := [.string a1]) (ok := fun _ => True) (okp := fun _ => True) ?hr ?hp (fun _ hk => hk) trivial (Below.refl _ _) (Nat.le_refl _) (by simp) ?_; (case hd => rfl); (case hg => rfl); (case hr => first | (go_simp; done) | (go_simp; rfl)); (case hp => exact (Reps.one (show Kd.M Kd.string _ _ _ a1 [.string a1] from rfl) (Reps.none _ _))); intro v120 w11 ho12 hb hg_ hnew_; clear hg_ hnew_; (first | rw [← Ny119.out] at ho12 | (simp only [Int.reduceToNat] at ho12; rw [← Ny119.out] at ho12)); have n0_ := Aside0.mk (Kd.R_lower ho12 (below_size (by repeat (first | (with_reducible first | exact HB.out | apply below_alloc | apply pw_below_drewN | apply below_drew1) | exact HB.out)))); have n1_ := Aside0.mk (below_step (by repeat (first | (with_reducible first | exact HB.out | apply below_alloc | apply pw_below_drewN | apply below_drew1) | exact HB.out)) hb); clear HB; have HO121 := n0_; have HB := n1_; clear n0_ n1_; clear hb ho12; obtain ⟨Ao13, co13, eo13⟩ := Kd.R_slice HO121.out; subst eo13) | ((with_reducible refine gate_callee (f := 6) rfl ?_); refine goesL_ (some 13) rfl rfl Try.func6 (by kernel_rfl) rfl #[.slice Ao13 y119.length co13] rfl (by (try simp only [List.map_toArray, List.map_cons, List.map_nil]); first | done | rfl | (simp only [List.length_drop, List.length_take]; rfl)) ?_; (with_reducible refine (laws_plain9.calls k _ _ y119 false _ ?side1 ?side2 A5.out).mono ?_); (case side1 => repeat (first | exact (Kd.R_reads' HO121.out).2.2 | (with_reducible refine Kd.C_alloc ?_ _) | (with_reducible refine Kd.C_drewN ?_ _) | (with_reducible refine Kd.C_drew ?_))); (case side2 => exact (Kd.R_reads' HO121.out).2.1); rintro e w' ⟨rfl, ⟨nd, rfl⟩⟩; refine ⟨_, rfl, ?_⟩))
        go_meet
        case rel => exact ⟨_, (true), (by first | rfl | (simp; done) | (simp [*]; done)), H', ⟨by first | omega | exact Nat.le_refl _⟩, ⟨by repeat (first | (with_reducible first | exact HB.out | apply below_alloc | apply pw_below_drewN | apply below_drew1) | exact HB.out)⟩⟩
    case rest =>
      clear HC4
      try clear p2
      try clear c3
      try clear c3b0
      try clear c3b1
      try clear c5
      try clear c6
      obtain ⟨kq, x18_3, rfl, HA, HJ3, HB⟩ := hcut
      cases kq with
      | zero => exact absurd HA.out (by simp [laws_FnAbbrev.j0])
      | succ kj3 =>
        have H := HA.out
        clear HA
        simp only [laws_FnAbbrev.j0] at H
        by_cases c14 : x18_3 = true
        · subst c14
          have H1 : (some true) = some r := by rw [if_pos rfl] at H; exact H
          clear H
          have H := H1
          clear H1
          obtain rfl := Option.some.inj H
          go_wp2
          go_ret
          exact ⟨by first | rfl | (simp [errW_none, errW_some] <;> rfl) | (simp [*, errW_none, errW_some] <;> rfl), by repeat (first | (with_reducible first | exact HB.out | apply below_alloc | apply pw_below_drewN | apply below_drew1) | exact HB.out)⟩
        · replace c14 := Bool.eq_false_iff.mpr c14
          subst c14
          have H1 : ((spec_Abbreviated.f a1 0 a0).bind fun bt124 => (if bt124.2.2 = true then (if bt124.2.1 = true then ((impl_Abbrev.f a0 a1).bind fun t127 => (if t127.toList = bt124.1.toList then ((impl_Abbrev.f 4 (⟨#[97, 98, 99, 100, 101]⟩ : ByteArray)).bind fun t128 => (some (t128.toList == ([97, 46, 46, 46] : List UInt8)))) else (some false))) else ((impl_Abbrev.f a0 a1).bind fun t129 => (if t129.toList = a1.toList then ((impl_Abbrev.f 4 (⟨#[97, 98, 99, 100, 101]⟩ : ByteArray)).bind fun t130 => (some (t130.toList == ([97, 46, 46, 46] : List UInt8)))) else (some false)))) else (some true))) = some r := by rw [if_neg (show ¬ (false = true) by decide)] at H; exact H
          clear H
          have H := H1
          clear H1
          replace H := Option.bind_eq_some_iff.mp H
          obtain ⟨⟨t124, t125, t126⟩, A150, H⟩ := H
          replace H : (if t126 = true then (if t125 = true then ((impl_Abbrev.f a0 a1).bind fun t127 => (if t127.toList = t124.toList then ((impl_Abbrev.f 4 (⟨#[97, 98, 99, 100, 101]⟩ : ByteArray)).bind fun t128 => (some (t128.toList == ([97, 46, 46, 46] : List UInt8)))) else (some false))) else ((impl_Abbrev.f a0 a1).bind fun t129 => (if t129.toList = a1.toList then ((impl_Abbrev.f 4 (⟨#[97, 98, 99, 100, 101]⟩ : ByteArray)).bind fun t130 => (some (t130.toList == ([97, 46, 46, 46] : List UInt8)))) else (some false)))) else (some true)) = some r := H
          have A15 := Aside0.mk A150
          clear A150
          by_cases c16 : t126 = true
          · subst c16
            have H1 : (if t125 = true then ((impl_Abbrev.f a0 a1).bind fun t127 => (if t127.toList = t124.toList then ((impl_Abbrev.f 4 (⟨#[97, 98, 99, 100, 101]⟩ : ByteArray)).bind fun t128 => (some (t128.toList == ([97, 46, 46, 46] : List UInt8)))) else (some false))) else ((impl_Abbrev.f a0 a1).bind fun t129 => (if t129.toList = a1.toList then ((impl_Abbrev.f 4 (⟨#[97, 98, 99, 100, 101]⟩ : ByteArray)).bind fun t130 => (some (t130.toList == ([97, 46, 46, 46] : List UInt8)))) else (some false)))) = some r := by rw [if_pos rfl] at H; exact H
            clear H
            have H := H1
            clear H1
            by_cases c17 : t125 = true
            · subst c17
              have H1 : ((impl_Abbrev.f a0 a1).bind fun t127 => (if t127.toList = t124.toList then ((impl_Abbrev.f 4 (⟨#[97, 98, 99, 100, 101]⟩ : ByteArray)).bind fun t128 => (some (t128.toList == ([97, 46, 46, 46] : List UInt8)))) else (some false))) = some r := by rw [if_pos rfl] at H; exact H
              clear H
              have H := H1
              clear H1
              replace H := Option.bind_eq_some_iff.mp H
              obtain ⟨t127, A180, H⟩ := H
              replace H : (if t127.toList = t124.toList then ((impl_Abbrev.f 4 (⟨#[97, 98, 99, 100, 101]⟩ : ByteArray)).bind fun t128 => (some (t128.toList == ([97, 46, 46, 46] : List UInt8)))) else (some false)) = some r := H
              have A18 := Aside0.mk A180
              clear A180
              by_cases c19 : t127.toList = t124.toList
              · rw [if_pos c19] at H
                have c19b0 : (t127.toList == t124.toList) = true := beq_iff_eq.mpr c19
                have c19b1 : (t127.toList != t124.toList) = false := bne_eq_false_iff_eq.mpr c19
                clear c19
                replace H := Option.bind_eq_some_iff.mp H
                obtain ⟨t128, A200, H⟩ := H
                replace H : (some (t128.toList == ([97, 46, 46, 46] : List UInt8))) = some r := H
                have A20 := Aside0.mk A200
                clear A200
                obtain rfl := Option.some.inj H
                go_wp2_with (first | ((with_reducible refine gate_callee (f := 10) rfl ?_); refine goesL_ (some 22) rfl rfl Try.func10 (by kernel_rfl) rfl #[.string a1, .int .i64 0, .int .i64 a0] rfl (by (try simp only [List.map_toArray, List.map_cons, List.map_nil]); first | done | rfl | (simp only [List.length_drop, List.length_take]; rfl)) ?_; (with_reducible refine (spec_Abbreviated.calls a1 0 a0 t124 true true _ A15.out).mono ?_); rintro e w' ⟨rfl, ⟨nd, rfl⟩⟩; refine ⟨_, rfl, ?_⟩) | ((with_reducible refine gate_callee (f := 12) rfl ?_); refine goesL_ (some 33) rfl rfl Try.func12 (by kernel_rfl) rfl #[.int .i64 a0, .string a1] rfl (by (try simp only [List.map_toArray, List.map_cons, List.map_nil]); first | done | rfl | (simp only [List.length_drop, List.length_take]; rfl)) ?_; (with_reducible refine (impl_Abbrev.calls a0 a1 t127 _ A18.out).mono ?_); rintro e w21 ⟨rfl, hb⟩; refine ⟨_, rfl, ?_⟩; have n0_ := Aside0.mk (below_step (by repeat (first | (with_reducible first | exact HB.out | apply below_alloc | apply pw_below_drewN | apply below_drew1) | exact HB.out)) hb); clear HB; have HB := n0_; clear n0_; (try clear hb); (try clear hb2); (try clear hk); (try clear hi)) | (go_at_call 12; (with_reducible refine (impl_Abbrev.calls 4 (⟨#[97, 98, 99, 100, 101]⟩ : ByteArray) t128 _ A20.out).mono ?_); rintro e w22 ⟨rfl, hb⟩; have n0_ := Aside0.mk (below_step (by repeat (first | (with_reducible first | exact HB.out | apply below_alloc | apply pw_below_drewN | apply below_drew1) | exact HB.out)) hb); clear HB; have HB := n0_; clear n0_; (try clear hb); (try clear hb2); (try clear hk); (try clear hi)))
                go_ret
                exact ⟨by first | rfl | (simp [errW_none, errW_some] <;> rfl) | (simp [*, errW_none, errW_some] <;> rfl), by repeat (first | (with_reducible first | exact HB.out | apply below_alloc | apply pw_below_drewN | apply below_drew1) | exact HB.out)⟩
              · rw [if_neg c19] at H
                have c19b0 : (t127.toList == t124.toList) = false := beq_eq_false_iff_ne.mpr c19
                have c19b1 : (t127.toList != t124.toList) = true := bne_iff_ne.mpr c19
                obtain rfl := Option.some.inj H
                go_wp2_with (first | ((with_reducible refine gate_callee (f := 10) rfl ?_); refine goesL_ (some 22) rfl rfl Try.func10 (by kernel_rfl) rfl #[.string a1, .int .i64 0, .int .i64 a0] rfl (by (try simp only [List.map_toArray, List.map_cons, List.map_nil]); first | done | rfl | (simp only [List.length_drop, List.length_take]; rfl)) ?_; (with_reducible refine (spec_Abbreviated.calls a1 0 a0 t124 true true _ A15.out).mono ?_); rintro e w' ⟨rfl, ⟨nd, rfl⟩⟩; refine ⟨_, rfl, ?_⟩) | ((with_reducible refine gate_callee (f := 12) rfl ?_); refine goesL_ (some 33) rfl rfl Try.func12 (by kernel_rfl) rfl #[.int .i64 a0, .string a1] rfl (by (try simp only [List.map_toArray, List.map_cons, List.map_nil]); first | done | rfl | (simp only [List.length_drop, List.length_take]; rfl)) ?_; (with_reducible refine (impl_Abbrev.calls a0 a1 t127 _ A18.out).mono ?_); rintro e w23 ⟨rfl, hb⟩; refine ⟨_, rfl, ?_⟩; have n0_ := Aside0.mk (below_step (by repeat (first | (with_reducible first | exact HB.out | apply below_alloc | apply pw_below_drewN | apply below_drew1) | exact HB.out)) hb); clear HB; have HB := n0_; clear n0_; (try clear hb); (try clear hb2); (try clear hk); (try clear hi)))
                go_ret
                exact ⟨by first | rfl | (simp [errW_none, errW_some] <;> rfl) | (simp [*, errW_none, errW_some] <;> rfl), by repeat (first | (with_reducible first | exact HB.out | apply below_alloc | apply pw_below_drewN | apply below_drew1) | exact HB.out)⟩
            · replace c17 := Bool.eq_false_iff.mpr c17
              subst c17
              have H1 : ((impl_Abbrev.f a0 a1).bind fun t129 => (if t129.toList = a1.toList then ((impl_Abbrev.f 4 (⟨#[97, 98, 99, 100, 101]⟩ : ByteArray)).bind fun t130 => (some (t130.toList == ([97, 46, 46, 46] : List UInt8)))) else (some false))) = some r := by rw [if_neg (show ¬ (false = true) by decide)] at H; exact H
              clear H
              have H := H1
              clear H1
              replace H := Option.bind_eq_some_iff.mp H
              obtain ⟨t129, A240, H⟩ := H
              replace H : (if t129.toList = a1.toList then ((impl_Abbrev.f 4 (⟨#[97, 98, 99, 100, 101]⟩ : ByteArray)).bind fun t130 => (some (t130.toList == ([97, 46, 46, 46] : List UInt8)))) else (some false)) = some r := H
              have A24 := Aside0.mk A240
              clear A240
              by_cases c25 : t129.toList = a1.toList
              · rw [if_pos c25] at H
                have c25b0 : (t129.toList == a1.toList) = true := beq_iff_eq.mpr c25
                have c25b1 : (t129.toList != a1.toList) = false := bne_eq_false_iff_eq.mpr c25
                clear c25
                replace H := Option.bind_eq_some_iff.mp H
                obtain ⟨t130, A260, H⟩ := H
                replace H : (some (t130.toList == ([97, 46, 46, 46] : List UInt8))) = some r := H
                have A26 := Aside0.mk A260
                clear A260
                obtain rfl := Option.some.inj H
                go_wp2_with (first | ((with_reducible refine gate_callee (f := 10) rfl ?_); refine goesL_ (some 22) rfl rfl Try.func10 (by kernel_rfl) rfl #[.string a1, .int .i64 0, .int .i64 a0] rfl (by (try simp only [List.map_toArray, List.map_cons, List.map_nil]); first | done | rfl | (simp only [List.length_drop, List.length_take]; rfl)) ?_; (with_reducible refine (spec_Abbreviated.calls a1 0 a0 t124 false true _ A15.out).mono ?_); rintro e w' ⟨rfl, ⟨nd, rfl⟩⟩; refine ⟨_, rfl, ?_⟩) | ((with_reducible refine gate_callee (f := 12) rfl ?_); refine goesL_ (some 33) rfl rfl Try.func12 (by kernel_rfl) rfl #[.int .i64 a0, .string a1] rfl (by (try simp only [List.map_toArray, List.map_cons, List.map_nil]); first | done | rfl | (simp only [List.length_drop, List.length_take]; rfl)) ?_; (with_reducible refine (impl_Abbrev.calls a0 a1 t129 _ A24.out).mono ?_); rintro e w27 ⟨rfl, hb⟩; refine ⟨_, rfl, ?_⟩; have n0_ := Aside0.mk (below_step (by repeat (first | (with_reducible first | exact HB.out | apply below_alloc | apply pw_below_drewN | apply below_drew1) | exact HB.out)) hb); clear HB; have HB := n0_; clear n0_; (try clear hb); (try clear hb2); (try clear hk); (try clear hi)) | (go_at_call 12; (with_reducible refine (impl_Abbrev.calls 4 (⟨#[97, 98, 99, 100, 101]⟩ : ByteArray) t130 _ A26.out).mono ?_); rintro e w28 ⟨rfl, hb⟩; have n0_ := Aside0.mk (below_step (by repeat (first | (with_reducible first | exact HB.out | apply below_alloc | apply pw_below_drewN | apply below_drew1) | exact HB.out)) hb); clear HB; have HB := n0_; clear n0_; (try clear hb); (try clear hb2); (try clear hk); (try clear hi)))
                go_ret
                exact ⟨by first | rfl | (simp [errW_none, errW_some] <;> rfl) | (simp [*, errW_none, errW_some] <;> rfl), by repeat (first | (with_reducible first | exact HB.out | apply below_alloc | apply pw_below_drewN | apply below_drew1) | exact HB.out)⟩
              · rw [if_neg c25] at H
                have c25b0 : (t129.toList == a1.toList) = false := beq_eq_false_iff_ne.mpr c25
                have c25b1 : (t129.toList != a1.toList) = true := bne_iff_ne.mpr c25
                obtain rfl := Option.some.inj H
                go_wp2_with (first | ((with_reducible refine gate_callee (f := 10) rfl ?_); refine goesL_ (some 22) rfl rfl Try.func10 (by kernel_rfl) rfl #[.string a1, .int .i64 0, .int .i64 a0] rfl (by (try simp only [List.map_toArray, List.map_cons, List.map_nil]); first | done | rfl | (simp only [List.length_drop, List.length_take]; rfl)) ?_; (with_reducible refine (spec_Abbreviated.calls a1 0 a0 t124 false true _ A15.out).mono ?_); rintro e w' ⟨rfl, ⟨nd, rfl⟩⟩; refine ⟨_, rfl, ?_⟩) | ((with_reducible refine gate_callee (f := 12) rfl ?_); refine goesL_ (some 33) rfl rfl Try.func12 (by kernel_rfl) rfl #[.int .i64 a0, .string a1] rfl (by (try simp only [List.map_toArray, List.map_cons, List.map_nil]); first | done | rfl | (simp only [List.length_drop, List.length_take]; rfl)) ?_; (with_reducible refine (impl_Abbrev.calls a0 a1 t129 _ A24.out).mono ?_); rintro e w29 ⟨rfl, hb⟩; refine ⟨_, rfl, ?_⟩; have n0_ := Aside0.mk (below_step (by repeat (first | (with_reducible first | exact HB.out | apply below_alloc | apply pw_below_drewN | apply below_drew1) | exact HB.out)) hb); clear HB; have HB := n0_; clear n0_; (try clear hb); (try clear hb2); (try clear hk); (try clear hi)))
                go_ret
                exact ⟨by first | rfl | (simp [errW_none, errW_some] <;> rfl) | (simp [*, errW_none, errW_some] <;> rfl), by repeat (first | (with_reducible first | exact HB.out | apply below_alloc | apply pw_below_drewN | apply below_drew1) | exact HB.out)⟩
          · replace c16 := Bool.eq_false_iff.mpr c16
            subst c16
            have H1 : (some true) = some r := by rw [if_neg (show ¬ (false = true) by decide)] at H; exact H
            clear H
            have H := H1
            clear H1
            obtain rfl := Option.some.inj H
            go_wp2_with (first | ((with_reducible refine gate_callee (f := 10) rfl ?_); refine goesL_ (some 22) rfl rfl Try.func10 (by kernel_rfl) rfl #[.string a1, .int .i64 0, .int .i64 a0] rfl (by (try simp only [List.map_toArray, List.map_cons, List.map_nil]); first | done | rfl | (simp only [List.length_drop, List.length_take]; rfl)) ?_; (with_reducible refine (spec_Abbreviated.calls a1 0 a0 t124 t125 false _ A15.out).mono ?_); rintro e w' ⟨rfl, ⟨nd, rfl⟩⟩; refine ⟨_, rfl, ?_⟩))
            go_ret
            exact ⟨by first | rfl | (simp [errW_none, errW_some] <;> rfl) | (simp [*, errW_none, errW_some] <;> rfl), by repeat (first | (with_reducible first | exact HB.out | apply below_alloc | apply pw_below_drewN | apply below_drew1) | exact HB.out)⟩

/-- THE ONE PURE STATEMENT of laws_FnAbbrev: yours. -/
def laws_FnAbbrev.Pure : Prop := ∀ (a0 : Int) (a1 : ByteArray), (Lit.int .i64 a0).wf = true → a1.size ≤ 140737488351232 → ∃ k, laws_FnAbbrev.f k a0 a1 = some true
theorem laws_FnAbbrev.walk (P : laws_FnAbbrev.Pure) (a0 : Int) (a1 : ByteArray) (w : World) (w0 : (Lit.int .i64 a0).wf = true) (w1 : a1.size ≤ 140737488351232) :
    Calls Try.prog 5 #[.int .i64 a0, .string a1] w fun e w' => e = .returned (.bool true) ∧ Below w.heap.size w w' := by
  obtain ⟨k, h⟩ := P a0 a1 w0 w1
  refine (laws_FnAbbrev.calls k a0 a1 true w h).mono ?_
  rintro e w' ⟨rfl, hd⟩
  exact ⟨rfl, hd⟩

end Go.Proofs.Ytmdehalchdgoeaa.P
