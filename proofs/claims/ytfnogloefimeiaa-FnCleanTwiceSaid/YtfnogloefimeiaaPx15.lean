-- WRITTEN by xprint.py (a program of this session, over the kit's print) out of the translation. Not trusted: Lean checks it.
import Derived.Test.YtfnogloefimeiaaPx0
import Derived.Test.YtfnogloefimeiaaPx14
namespace Go.Proofs.Ytfnogloefimeiaa.P
open Go.RowKit Go.Proofs.YtfnogloefimeiaaW.PrintWords Go.Proofs.YtfnogloefimeiaaW.PrintLast Go.Proofs.YtfnogloefimeiaaW.PrintMore
attribute [local go_sem] max2_int min2_int max_two min_two max_three min_three max_four min_four   -- for this text's walks alone
set_option linter.unusedVariables false
set_option linter.unusedSimpArgs false

/-! ### sprig_clean: function 47 -/
def sprig_clean.f (a0 : ByteArray) : Option (ByteArray) := (path_Clean.f a0).bind fun t168 => (some t168)
set_option maxHeartbeats 8000000 in
set_option maxRecDepth 100000 in
theorem sprig_clean.calls (a0 : ByteArray) (r : ByteArray) (w : World) (h : sprig_clean.f a0 = some r) :
    Calls Try.prog 47 #[.string a0] w fun e w' => e = .returned (.string r) ∧ Below w.heap.size w w' := by
  have HB := Aside0.mk (Below.refl w.heap.size w)
  have H : ((path_Clean.f a0).bind fun t168 => (some t168)) = some r := h
  clear h
  replace H := Option.bind_eq_some_iff.mp H
  obtain ⟨t168, A20, H⟩ := H
  replace H : (some t168) = some r := H
  have A2 := Aside0.mk A20
  clear A20
  obtain rfl := Option.some.inj H
  go_enter Try.func47, Try.ntmps47
  go_wp2_with (first | ((with_reducible refine gate_callee (f := 56) rfl ?_); refine goesL_ (some 4) rfl rfl Try.func56 (by kernel_rfl) rfl #[.string a0] rfl (by (try simp only [List.map_toArray, List.map_cons, List.map_nil]); first | done | rfl | (simp only [List.length_drop, List.length_take]; rfl)) ?_; (with_reducible refine (path_Clean.calls a0 t168 _ A2.out).mono ?_); rintro e w3 ⟨rfl, hb⟩; refine ⟨_, rfl, ?_⟩; have n0_ := Aside0.mk (below_step (by repeat (first | (with_reducible first | exact HB.out | apply below_alloc | apply pw_below_drewN | apply below_drew1) | exact HB.out)) hb); clear HB; have HB := n0_; clear n0_; (try clear hb); (try clear hb2); (try clear hk); (try clear hi)))
  go_ret
  exact ⟨by first | rfl | (simp [errW_none, errW_some] <;> rfl) | (simp [*, errW_none, errW_some] <;> rfl), by repeat (first | (with_reducible first | exact HB.out | apply below_alloc | apply pw_below_drewN | apply below_drew1) | exact HB.out)⟩

/-! ### sprig_Clean: function 34 -/
def sprig_Clean.f (a0 : ByteArray) : Option (ByteArray) := (sprig_clean.f a0).bind fun t169 => (some t169)
set_option maxHeartbeats 8000000 in
set_option maxRecDepth 100000 in
theorem sprig_Clean.calls (a0 : ByteArray) (r : ByteArray) (w : World) (h : sprig_Clean.f a0 = some r) :
    Calls Try.prog 34 #[.string a0] w fun e w' => e = .returned (.string r) ∧ Below w.heap.size w w' := by
  have HB := Aside0.mk (Below.refl w.heap.size w)
  have H : ((sprig_clean.f a0).bind fun t169 => (some t169)) = some r := h
  clear h
  replace H := Option.bind_eq_some_iff.mp H
  obtain ⟨t169, A20, H⟩ := H
  replace H : (some t169) = some r := H
  have A2 := Aside0.mk A20
  clear A20
  obtain rfl := Option.some.inj H
  go_enter Try.func34, Try.ntmps34
  go_wp2_with (first | ((with_reducible refine gate_callee (f := 47) rfl ?_); refine goesL_ (some 4) rfl rfl Try.func47 (by kernel_rfl) rfl #[.string a0] rfl (by (try simp only [List.map_toArray, List.map_cons, List.map_nil]); first | done | rfl | (simp only [List.length_drop, List.length_take]; rfl)) ?_; (with_reducible refine (sprig_clean.calls a0 t169 _ A2.out).mono ?_); rintro e w3 ⟨rfl, hb⟩; refine ⟨_, rfl, ?_⟩; have n0_ := Aside0.mk (below_step (by repeat (first | (with_reducible first | exact HB.out | apply below_alloc | apply pw_below_drewN | apply below_drew1) | exact HB.out)) hb); clear HB; have HB := n0_; clear n0_; (try clear hb); (try clear hb2); (try clear hk); (try clear hi)))
  go_ret
  exact ⟨by first | rfl | (simp [errW_none, errW_some] <;> rfl) | (simp [*, errW_none, errW_some] <;> rfl), by repeat (first | (with_reducible first | exact HB.out | apply below_alloc | apply pw_below_drewN | apply below_drew1) | exact HB.out)⟩

/-! ### impl_Clean: function 19 -/
def impl_Clean.f (a0 : ByteArray) : Option (ByteArray) := (sprig_Clean.f a0).bind fun t170 => (some t170)
set_option maxHeartbeats 8000000 in
set_option maxRecDepth 100000 in
theorem impl_Clean.calls (a0 : ByteArray) (r : ByteArray) (w : World) (h : impl_Clean.f a0 = some r) :
    Calls Try.prog 19 #[.string a0] w fun e w' => e = .returned (.string r) ∧ Below w.heap.size w w' := by
  have HB := Aside0.mk (Below.refl w.heap.size w)
  have H : ((sprig_Clean.f a0).bind fun t170 => (some t170)) = some r := h
  clear h
  replace H := Option.bind_eq_some_iff.mp H
  obtain ⟨t170, A20, H⟩ := H
  replace H : (some t170) = some r := H
  have A2 := Aside0.mk A20
  clear A20
  obtain rfl := Option.some.inj H
  go_enter Try.func19, Try.ntmps19
  go_wp2_with (first | ((with_reducible refine gate_callee (f := 34) rfl ?_); refine goesL_ (some 4) rfl rfl Try.func34 (by kernel_rfl) rfl #[.string a0] rfl (by (try simp only [List.map_toArray, List.map_cons, List.map_nil]); first | done | rfl | (simp only [List.length_drop, List.length_take]; rfl)) ?_; (with_reducible refine (sprig_Clean.calls a0 t170 _ A2.out).mono ?_); rintro e w3 ⟨rfl, hb⟩; refine ⟨_, rfl, ?_⟩; have n0_ := Aside0.mk (below_step (by repeat (first | (with_reducible first | exact HB.out | apply below_alloc | apply pw_below_drewN | apply below_drew1) | exact HB.out)) hb); clear HB; have HB := n0_; clear n0_; (try clear hb); (try clear hb2); (try clear hk); (try clear hi)))
  go_ret
  exact ⟨by first | rfl | (simp [errW_none, errW_some] <;> rfl) | (simp [*, errW_none, errW_some] <;> rfl), by repeat (first | (with_reducible first | exact HB.out | apply below_alloc | apply pw_below_drewN | apply below_drew1) | exact HB.out)⟩

/-! ### laws_FnCleanTwice: function 6 -/
mutual
def laws_FnCleanTwice.j0 : Nat → ByteArray → ByteArray → Bool → Option (Bool)
  | 0, _, _, _ => none
  | k + 1, x0, x1, x13 => if x13 = true then (some true) else (if (x0.size : Int) > 500 then (laws_FnCleanTwice.j1 k x0 x1 true) else (laws_FnCleanTwice.j1 k x0 x1 (decide ((x1.size : Int) > 500))))
def laws_FnCleanTwice.j1 : Nat → ByteArray → ByteArray → Bool → Option (Bool)
  | 0, _, _, _ => none
  | k + 1, x0, x1, x21 => if x21 = true then (some true) else (if x0.size + 1 ≤ 9223372036854775807 then (if (x0 ++ (⟨#[47]⟩ : ByteArray)).size + x1.size ≤ 9223372036854775807 then ((impl_Clean.f ((x0 ++ (⟨#[47]⟩ : ByteArray)) ++ x1)).bind fun t171 => (if t171.toList = ([] : List UInt8) then (some false) else ((impl_Clean.f t171).bind fun t172 => (if t172.toList = t171.toList then (if x0.toList = ([] : List UInt8) then (some true) else ((impl_Clean.f x0).bind fun t173 => (if t173.size + 1 ≤ 9223372036854775807 then (if (t173 ++ (⟨#[47]⟩ : ByteArray)).size + x1.size ≤ 9223372036854775807 then ((impl_Clean.f ((t173 ++ (⟨#[47]⟩ : ByteArray)) ++ x1)).bind fun t174 => (some (t171.toList == t174.toList))) else (none)) else (none)))) else (some false))))) else (none)) else (none))
end
def laws_FnCleanTwice.f (k : Nat) (a0 : ByteArray) (a1 : ByteArray) : Option (Bool) := if (a0.size : Int) > 2147483647 then (laws_FnCleanTwice.j0 k a0 a1 true) else (laws_FnCleanTwice.j0 k a0 a1 (decide ((a1.size : Int) > 2147483647)))
theorem laws_FnCleanTwice.mono_l : ∀ k, (∀ y0 y1 y2, LeO (laws_FnCleanTwice.j0 k y0 y1 y2) (laws_FnCleanTwice.j0 (k + 1) y0 y1 y2)) ∧ (∀ y0 y1 y2, LeO (laws_FnCleanTwice.j1 k y0 y1 y2) (laws_FnCleanTwice.j1 (k + 1) y0 y1 y2))
  | 0 => ⟨fun _ _ _ r h => by simp [laws_FnCleanTwice.j0] at h, fun _ _ _ r h => by simp [laws_FnCleanTwice.j1] at h⟩
  | k + 1 => by
    obtain ⟨ih0, ih1⟩ := laws_FnCleanTwice.mono_l k
    refine ⟨?_, ?_⟩
    · intro y0 y1 y2
      unfold laws_FnCleanTwice.j0
      repeat' first
      | (with_reducible exact ih0 _ _ _)
      | (with_reducible exact ih1 _ _ _)
      | (with_reducible exact LeO.refl _)
      | (with_reducible exact LeO.none _)
      | (with_reducible refine LeO.ite ?_ ?_)
      | (with_reducible refine LeO.bind ?_ (fun _ => ?_))
      | exact ih0 _ _ _
      | exact ih1 _ _ _
      | exact LeO.none _
      | refine LeO.ite ?_ ?_
      | refine LeO.bind ?_ (fun _ => ?_)
    · intro y0 y1 y2
      unfold laws_FnCleanTwice.j1
      repeat' first
      | (with_reducible exact ih0 _ _ _)
      | (with_reducible exact ih1 _ _ _)
      | (with_reducible exact LeO.refl _)
      | (with_reducible exact LeO.none _)
      | (with_reducible refine LeO.ite ?_ ?_)
      | (with_reducible refine LeO.bind ?_ (fun _ => ?_))
      | exact ih0 _ _ _
      | exact ih1 _ _ _
      | exact LeO.none _
      | refine LeO.ite ?_ ?_
      | refine LeO.bind ?_ (fun _ => ?_)
theorem laws_FnCleanTwice.mono : ∀ a0 a1 k, LeO (laws_FnCleanTwice.f k a0 a1) (laws_FnCleanTwice.f (k + 1) a0 a1) := by
  intro a0 a1 k
  obtain ⟨ih0, ih1⟩ := laws_FnCleanTwice.mono_l k
  unfold laws_FnCleanTwice.f
  repeat' first
      | (with_reducible exact ih0 _ _ _)
      | (with_reducible exact ih1 _ _ _)
      | (with_reducible exact LeO.refl _)
      | (with_reducible exact LeO.none _)
      | (with_reducible refine LeO.ite ?_ ?_)
      | (with_reducible refine LeO.bind ?_ (fun _ => ?_))
      | exact ih0 _ _ _
      | exact ih1 _ _ _
      | exact LeO.none _
      | refine LeO.ite ?_ ?_
      | refine LeO.bind ?_ (fun _ => ?_)
set_option maxHeartbeats 8000000 in
set_option maxRecDepth 100000 in
theorem laws_FnCleanTwice.calls (k : Nat) (a0 : ByteArray) (a1 : ByteArray) (r : Bool) (w : World) (h : laws_FnCleanTwice.f k a0 a1 = some r) :
    Calls Try.prog 6 #[.string a0, .string a1] w fun e w' => e = .returned (.bool r) ∧ Below w.heap.size w w' := by
  have HB := Aside0.mk (Below.refl w.heap.size w)
  have H : (if (a0.size : Int) > 2147483647 then (laws_FnCleanTwice.j0 k a0 a1 true) else (laws_FnCleanTwice.j0 k a0 a1 (decide ((a1.size : Int) > 2147483647)))) = some r := h
  clear h
  have HC3 := Aside0.mk H
  clear H
  go_enter Try.func6, Try.ntmps6
  go_upto_region 1 with (fail)
  go_cut [13] (fun v13 wc => ∃ (kq : Nat) (x13_2 : Bool), v13 = .bool x13_2 ∧ Aside0 (laws_FnCleanTwice.j0 kq a0 a1 x13_2 = some r) ∧ Aside0 (kq ≤ k) ∧ Aside0 (Below w.heap.size w wc))
  case first =>
    have H := HC3.out
    clear HC3
    by_cases c4 : (a0.size : Int) > 2147483647
    · rw [if_pos c4] at H
      have c4b0 : decide (2147483647 < (a0.size : Int)) = true := decide_eq_true c4
      have c4b1 : decide (2147483647 < a0.size) = true := decide_eq_true (by omega)
      clear c4
      (first | rw [c4b0] | (simp only [i64_w, i32_w]; rw [c4b0]) | skip)
      have H' := Aside0.mk H
      clear H
      go_wp2
      go_meet
      case rel => exact ⟨_, (true), (by first | rfl | (simp; done) | (simp [*]; done)), H', ⟨by first | omega | exact Nat.le_refl _⟩, ⟨by repeat (first | (with_reducible first | exact HB.out | apply below_alloc | apply pw_below_drewN | apply below_drew1) | exact HB.out)⟩⟩
    · rw [if_neg c4] at H
      have c4b0 : decide (2147483647 < (a0.size : Int)) = false := decide_eq_false c4
      have c4b1 : decide (2147483647 < a0.size) = false := decide_eq_false (by omega)
      clear c4
      (first | rw [c4b0] | (simp only [i64_w, i32_w]; rw [c4b0]) | skip)
      have H' := Aside0.mk H
      clear H
      go_wp2
      go_meet
      case rel => exact ⟨_, (decide ((a1.size : Int) > 2147483647)), (by first | rfl | (simp; done) | (simp [*]; done)), H', ⟨by first | omega | exact Nat.le_refl _⟩, ⟨by repeat (first | (with_reducible first | exact HB.out | apply below_alloc | apply pw_below_drewN | apply below_drew1) | exact HB.out)⟩⟩
  case rest =>
    clear HC3
    try clear p2
    try clear c4
    try clear c4b0
    try clear c4b1
    obtain ⟨kq, x13_2, rfl, HA, HJ2, HB⟩ := hcut
    cases kq with
    | zero => exact absurd HA.out (by simp [laws_FnCleanTwice.j0])
    | succ kj2 =>
      have H := HA.out
      clear HA
      simp only [laws_FnCleanTwice.j0] at H
      by_cases c5 : x13_2 = true
      · subst c5
        have H1 : (some true) = some r := by rw [if_pos rfl] at H; exact H
        clear H
        have H := H1
        clear H1
        obtain rfl := Option.some.inj H
        go_wp2
        go_ret
        exact ⟨by first | rfl | (simp [errW_none, errW_some] <;> rfl) | (simp [*, errW_none, errW_some] <;> rfl), by repeat (first | (with_reducible first | exact HB.out | apply below_alloc | apply pw_below_drewN | apply below_drew1) | exact HB.out)⟩
      · replace c5 := Bool.eq_false_iff.mpr c5
        subst c5
        have H1 : (if (a0.size : Int) > 500 then (laws_FnCleanTwice.j1 kj2 a0 a1 true) else (laws_FnCleanTwice.j1 kj2 a0 a1 (decide ((a1.size : Int) > 500)))) = some r := by rw [if_neg (show ¬ (false = true) by decide)] at H; exact H
        clear H
        have H := H1
        clear H1
        have HC6 := Aside0.mk H
        clear H
        go_upto_region 3 with (fail)
        go_cut [21] (fun v21 wc => ∃ (kq : Nat) (x21_5 : Bool), v21 = .bool x21_5 ∧ Aside0 (laws_FnCleanTwice.j1 kq a0 a1 x21_5 = some r) ∧ Aside0 (kq ≤ kj2) ∧ Aside0 (Below w.heap.size w wc))
        case first =>
          have H := HC6.out
          clear HC6
          by_cases c7 : (a0.size : Int) > 500
          · rw [if_pos c7] at H
            have c7b0 : decide (500 < (a0.size : Int)) = true := decide_eq_true c7
            have c7b1 : decide (500 < a0.size) = true := decide_eq_true (by omega)
            clear c7
            (first | rw [c7b0] | (simp only [i64_w, i32_w]; rw [c7b0]) | skip)
            have H' := Aside0.mk H
            clear H
            go_wp2
            go_meet
            case rel => exact ⟨_, (true), (by first | rfl | (simp; done) | (simp [*]; done)), H', ⟨by have := HJ2.out; first | omega | exact Nat.le_refl _⟩, ⟨by repeat (first | (with_reducible first | exact HB.out | apply below_alloc | apply pw_below_drewN | apply below_drew1) | exact HB.out)⟩⟩
          · rw [if_neg c7] at H
            have c7b0 : decide (500 < (a0.size : Int)) = false := decide_eq_false c7
            have c7b1 : decide (500 < a0.size) = false := decide_eq_false (by omega)
            clear c7
            (first | rw [c7b0] | (simp only [i64_w, i32_w]; rw [c7b0]) | skip)
            have H' := Aside0.mk H
            clear H
            go_wp2
            go_meet
            case rel => exact ⟨_, (decide ((a1.size : Int) > 500)), (by first | rfl | (simp; done) | (simp [*]; done)), H', ⟨by have := HJ2.out; first | omega | exact Nat.le_refl _⟩, ⟨by repeat (first | (with_reducible first | exact HB.out | apply below_alloc | apply pw_below_drewN | apply below_drew1) | exact HB.out)⟩⟩
        case rest =>
          clear HC6
          try clear p2
          try clear c4
          try clear c4b0
          try clear c4b1
          try clear c5
          try clear c6
          try clear c7
          try clear c7b0
          try clear c7b1
          try clear p2
          obtain ⟨kq, x21_5, rfl, HA, HJ5, HB⟩ := hcut
          cases kq with
          | zero => exact absurd HA.out (by simp [laws_FnCleanTwice.j1])
          | succ kj5 =>
            have H := HA.out
            clear HA
            simp only [laws_FnCleanTwice.j1] at H
            by_cases c8 : x21_5 = true
            · subst c8
              have H1 : (some true) = some r := by rw [if_pos rfl] at H; exact H
              clear H
              have H := H1
              clear H1
              obtain rfl := Option.some.inj H
              go_wp2
              go_ret
              exact ⟨by first | rfl | (simp [errW_none, errW_some] <;> rfl) | (simp [*, errW_none, errW_some] <;> rfl), by repeat (first | (with_reducible first | exact HB.out | apply below_alloc | apply pw_below_drewN | apply below_drew1) | exact HB.out)⟩
            · replace c8 := Bool.eq_false_iff.mpr c8
              subst c8
              have H1 : (if a0.size + 1 ≤ 9223372036854775807 then (if (a0 ++ (⟨#[47]⟩ : ByteArray)).size + a1.size ≤ 9223372036854775807 then ((impl_Clean.f ((a0 ++ (⟨#[47]⟩ : ByteArray)) ++ a1)).bind fun t171 => (if t171.toList = ([] : List UInt8) then (some false) else ((impl_Clean.f t171).bind fun t172 => (if t172.toList = t171.toList then (if a0.toList = ([] : List UInt8) then (some true) else ((impl_Clean.f a0).bind fun t173 => (if t173.size + 1 ≤ 9223372036854775807 then (if (t173 ++ (⟨#[47]⟩ : ByteArray)).size + a1.size ≤ 9223372036854775807 then ((impl_Clean.f ((t173 ++ (⟨#[47]⟩ : ByteArray)) ++ a1)).bind fun t174 => (some (t171.toList == t174.toList))) else (none)) else (none)))) else (some false))))) else (none)) else (none)) = some r := by rw [if_neg (show ¬ (false = true) by decide)] at H; exact H
              clear H
              have H := H1
              clear H1
              by_cases c9 : a0.size + 1 ≤ 9223372036854775807
              · rw [if_pos c9] at H
                have c9b0 := eq_true c9
                have c9b1 : decide (a0.size + 1 ≤ 9223372036854775807) = true := decide_eq_true c9
                try have c9b2 : (9223372036854775807 < a0.size + 1) = False := eq_false (Nat.not_lt.2 c9)
                by_cases c10 : (a0 ++ (⟨#[47]⟩ : ByteArray)).size + a1.size ≤ 9223372036854775807
                · rw [if_pos c10] at H
                  have c10b0 := eq_true c10
                  have c10b1 : decide ((a0 ++ (⟨#[47]⟩ : ByteArray)).size + a1.size ≤ 9223372036854775807) = true := decide_eq_true c10
                  try have c10b2 : (9223372036854775807 < (a0 ++ (⟨#[47]⟩ : ByteArray)).size + a1.size) = False := eq_false (Nat.not_lt.2 c10)
                  replace H := Option.bind_eq_some_iff.mp H
                  obtain ⟨t171, A110, H⟩ := H
                  replace H : (if t171.toList = ([] : List UInt8) then (some false) else ((impl_Clean.f t171).bind fun t172 => (if t172.toList = t171.toList then (if a0.toList = ([] : List UInt8) then (some true) else ((impl_Clean.f a0).bind fun t173 => (if t173.size + 1 ≤ 9223372036854775807 then (if (t173 ++ (⟨#[47]⟩ : ByteArray)).size + a1.size ≤ 9223372036854775807 then ((impl_Clean.f ((t173 ++ (⟨#[47]⟩ : ByteArray)) ++ a1)).bind fun t174 => (some (t171.toList == t174.toList))) else (none)) else (none)))) else (some false)))) = some r := H
                  have A11 := Aside0.mk A110
                  clear A110
                  by_cases c12 : t171.toList = ([] : List UInt8)
                  · rw [if_pos c12] at H
                    have c12b0 : (t171.toList == ([] : List UInt8)) = true := beq_iff_eq.mpr c12
                    have c12b1 : (t171.toList != ([] : List UInt8)) = false := bne_eq_false_iff_eq.mpr c12
                    clear c12
                    obtain rfl := Option.some.inj H
                    go_wp2_with (first | ((with_reducible refine gate_callee (f := 19) rfl ?_); refine goesL_ (some 26) rfl rfl Try.func19 (by kernel_rfl) rfl #[.string ((a0 ++ (⟨#[47]⟩ : ByteArray)) ++ a1)] rfl (by (try simp only [List.map_toArray, List.map_cons, List.map_nil]); first | done | rfl | (simp only [List.length_drop, List.length_take]; rfl)) ?_; (with_reducible refine (impl_Clean.calls ((a0 ++ (⟨#[47]⟩ : ByteArray)) ++ a1) t171 _ A11.out).mono ?_); rintro e w13 ⟨rfl, hb⟩; refine ⟨_, rfl, ?_⟩; have n0_ := Aside0.mk (below_step (by repeat (first | (with_reducible first | exact HB.out | apply below_alloc | apply pw_below_drewN | apply below_drew1) | exact HB.out)) hb); clear HB; have HB := n0_; clear n0_; (try clear hb); (try clear hb2); (try clear hk); (try clear hi)))
                    go_ret
                    exact ⟨by first | rfl | (simp [errW_none, errW_some] <;> rfl) | (simp [*, errW_none, errW_some] <;> rfl), by repeat (first | (with_reducible first | exact HB.out | apply below_alloc | apply pw_below_drewN | apply below_drew1) | exact HB.out)⟩
                  · rw [if_neg c12] at H
                    have c12b0 : (t171.toList == ([] : List UInt8)) = false := beq_eq_false_iff_ne.mpr c12
                    have c12b1 : (t171.toList != ([] : List UInt8)) = true := bne_iff_ne.mpr c12
                    replace H := Option.bind_eq_some_iff.mp H
                    obtain ⟨t172, A140, H⟩ := H
                    replace H : (if t172.toList = t171.toList then (if a0.toList = ([] : List UInt8) then (some true) else ((impl_Clean.f a0).bind fun t173 => (if t173.size + 1 ≤ 9223372036854775807 then (if (t173 ++ (⟨#[47]⟩ : ByteArray)).size + a1.size ≤ 9223372036854775807 then ((impl_Clean.f ((t173 ++ (⟨#[47]⟩ : ByteArray)) ++ a1)).bind fun t174 => (some (t171.toList == t174.toList))) else (none)) else (none)))) else (some false)) = some r := H
                    have A14 := Aside0.mk A140
                    clear A140
                    by_cases c15 : t172.toList = t171.toList
                    · rw [if_pos c15] at H
                      have c15b0 : (t172.toList == t171.toList) = true := beq_iff_eq.mpr c15
                      have c15b1 : (t172.toList != t171.toList) = false := bne_eq_false_iff_eq.mpr c15
                      clear c15
                      by_cases c16 : a0.toList = ([] : List UInt8)
                      · rw [if_pos c16] at H
                        have c16b0 : (a0.toList == ([] : List UInt8)) = true := beq_iff_eq.mpr c16
                        have c16b1 : (a0.toList != ([] : List UInt8)) = false := bne_eq_false_iff_eq.mpr c16
                        clear c16
                        obtain rfl := Option.some.inj H
                        go_wp2_with (first | ((with_reducible refine gate_callee (f := 19) rfl ?_); refine goesL_ (some 26) rfl rfl Try.func19 (by kernel_rfl) rfl #[.string ((a0 ++ (⟨#[47]⟩ : ByteArray)) ++ a1)] rfl (by (try simp only [List.map_toArray, List.map_cons, List.map_nil]); first | done | rfl | (simp only [List.length_drop, List.length_take]; rfl)) ?_; (with_reducible refine (impl_Clean.calls ((a0 ++ (⟨#[47]⟩ : ByteArray)) ++ a1) t171 _ A11.out).mono ?_); rintro e w17 ⟨rfl, hb⟩; refine ⟨_, rfl, ?_⟩; have n0_ := Aside0.mk (below_step (by repeat (first | (with_reducible first | exact HB.out | apply below_alloc | apply pw_below_drewN | apply below_drew1) | exact HB.out)) hb); clear HB; have HB := n0_; clear n0_; (try clear hb); (try clear hb2); (try clear hk); (try clear hi)) | (go_at_call 19; (with_reducible refine (impl_Clean.calls t171 t172 _ A14.out).mono ?_); rintro e w18 ⟨rfl, hb⟩; have n0_ := Aside0.mk (below_step (by repeat (first | (with_reducible first | exact HB.out | apply below_alloc | apply pw_below_drewN | apply below_drew1) | exact HB.out)) hb); clear HB; have HB := n0_; clear n0_; (try clear hb); (try clear hb2); (try clear hk); (try clear hi)))
                        go_ret
                        exact ⟨by first | rfl | (simp [errW_none, errW_some] <;> rfl) | (simp [*, errW_none, errW_some] <;> rfl), by repeat (first | (with_reducible first | exact HB.out | apply below_alloc | apply pw_below_drewN | apply below_drew1) | exact HB.out)⟩
                      · rw [if_neg c16] at H
                        have c16b0 : (a0.toList == ([] : List UInt8)) = false := beq_eq_false_iff_ne.mpr c16
                        have c16b1 : (a0.toList != ([] : List UInt8)) = true := bne_iff_ne.mpr c16
                        replace H := Option.bind_eq_some_iff.mp H
                        obtain ⟨t173, A190, H⟩ := H
                        replace H : (if t173.size + 1 ≤ 9223372036854775807 then (if (t173 ++ (⟨#[47]⟩ : ByteArray)).size + a1.size ≤ 9223372036854775807 then ((impl_Clean.f ((t173 ++ (⟨#[47]⟩ : ByteArray)) ++ a1)).bind fun t174 => (some (t171.toList == t174.toList))) else (none)) else (none)) = some r := H
                        have A19 := Aside0.mk A190
                        clear A190
                        by_cases c20 : t173.size + 1 ≤ 9223372036854775807
                        · rw [if_pos c20] at H
                          have c20b0 := eq_true c20
                          have c20b1 : decide (t173.size + 1 ≤ 9223372036854775807) = true := decide_eq_true c20
                          try have c20b2 : (9223372036854775807 < t173.size + 1) = False := eq_false (Nat.not_lt.2 c20)
                          by_cases c21 : (t173 ++ (⟨#[47]⟩ : ByteArray)).size + a1.size ≤ 9223372036854775807
                          · rw [if_pos c21] at H
                            have c21b0 := eq_true c21
                            have c21b1 : decide ((t173 ++ (⟨#[47]⟩ : ByteArray)).size + a1.size ≤ 9223372036854775807) = true := decide_eq_true c21
                            try have c21b2 : (9223372036854775807 < (t173 ++ (⟨#[47]⟩ : ByteArray)).size + a1.size) = False := eq_false (Nat.not_lt.2 c21)
                            replace H := Option.bind_eq_some_iff.mp H
                            obtain ⟨t174, A220, H⟩ := H
                            replace H : (some (t171.toList == t174.toList)) = some r := H
                            have A22 := Aside0.mk A220
                            clear A220
                            obtain rfl := Option.some.inj H
                            go_wp2_with (first | ((with_reducible refine gate_callee (f := 19) rfl ?_); refine goesL_ (some 26) rfl rfl Try.func19 (by kernel_rfl) rfl #[.string ((a0 ++ (⟨#[47]⟩ : ByteArray)) ++ a1)] rfl (by (try simp only [List.map_toArray, List.map_cons, List.map_nil]); first | done | rfl | (simp only [List.length_drop, List.length_take]; rfl)) ?_; (with_reducible refine (impl_Clean.calls ((a0 ++ (⟨#[47]⟩ : ByteArray)) ++ a1) t171 _ A11.out).mono ?_); rintro e w23 ⟨rfl, hb⟩; refine ⟨_, rfl, ?_⟩; have n0_ := Aside0.mk (below_step (by repeat (first | (with_reducible first | exact HB.out | apply below_alloc | apply pw_below_drewN | apply below_drew1) | exact HB.out)) hb); clear HB; have HB := n0_; clear n0_; (try clear hb); (try clear hb2); (try clear hk); (try clear hi)) | (go_at_call 19; (with_reducible refine (impl_Clean.calls t171 t172 _ A14.out).mono ?_); rintro e w24 ⟨rfl, hb⟩; have n0_ := Aside0.mk (below_step (by repeat (first | (with_reducible first | exact HB.out | apply below_alloc | apply pw_below_drewN | apply below_drew1) | exact HB.out)) hb); clear HB; have HB := n0_; clear n0_; (try clear hb); (try clear hb2); (try clear hk); (try clear hi)) | (go_at_call 19; (with_reducible refine (impl_Clean.calls a0 t173 _ A19.out).mono ?_); rintro e w25 ⟨rfl, hb⟩; have n0_ := Aside0.mk (below_step (by repeat (first | (with_reducible first | exact HB.out | apply below_alloc | apply pw_below_drewN | apply below_drew1) | exact HB.out)) hb); clear HB; have HB := n0_; clear n0_; (try clear hb); (try clear hb2); (try clear hk); (try clear hi)) | (go_at_call 19; (with_reducible refine (impl_Clean.calls ((t173 ++ (⟨#[47]⟩ : ByteArray)) ++ a1) t174 _ A22.out).mono ?_); rintro e w26 ⟨rfl, hb⟩; have n0_ := Aside0.mk (below_step (by repeat (first | (with_reducible first | exact HB.out | apply below_alloc | apply pw_below_drewN | apply below_drew1) | exact HB.out)) hb); clear HB; have HB := n0_; clear n0_; (try clear hb); (try clear hb2); (try clear hk); (try clear hi)))
                            go_ret
                            exact ⟨by first | rfl | (simp [errW_none, errW_some] <;> rfl) | (simp [*, errW_none, errW_some] <;> rfl), by repeat (first | (with_reducible first | exact HB.out | apply below_alloc | apply pw_below_drewN | apply below_drew1) | exact HB.out)⟩
                          · rw [if_neg c21] at H
                            exact absurd H (by simp)
                        · rw [if_neg c20] at H
                          exact absurd H (by simp)
                    · rw [if_neg c15] at H
                      have c15b0 : (t172.toList == t171.toList) = false := beq_eq_false_iff_ne.mpr c15
                      have c15b1 : (t172.toList != t171.toList) = true := bne_iff_ne.mpr c15
                      obtain rfl := Option.some.inj H
                      go_wp2_with (first | ((with_reducible refine gate_callee (f := 19) rfl ?_); refine goesL_ (some 26) rfl rfl Try.func19 (by kernel_rfl) rfl #[.string ((a0 ++ (⟨#[47]⟩ : ByteArray)) ++ a1)] rfl (by (try simp only [List.map_toArray, List.map_cons, List.map_nil]); first | done | rfl | (simp only [List.length_drop, List.length_take]; rfl)) ?_; (with_reducible refine (impl_Clean.calls ((a0 ++ (⟨#[47]⟩ : ByteArray)) ++ a1) t171 _ A11.out).mono ?_); rintro e w27 ⟨rfl, hb⟩; refine ⟨_, rfl, ?_⟩; have n0_ := Aside0.mk (below_step (by repeat (first | (with_reducible first | exact HB.out | apply below_alloc | apply pw_below_drewN | apply below_drew1) | exact HB.out)) hb); clear HB; have HB := n0_; clear n0_; (try clear hb); (try clear hb2); (try clear hk); (try clear hi)) | (go_at_call 19; (with_reducible refine (impl_Clean.calls t171 t172 _ A14.out).mono ?_); rintro e w28 ⟨rfl, hb⟩; have n0_ := Aside0.mk (below_step (by repeat (first | (with_reducible first | exact HB.out | apply below_alloc | apply pw_below_drewN | apply below_drew1) | exact HB.out)) hb); clear HB; have HB := n0_; clear n0_; (try clear hb); (try clear hb2); (try clear hk); (try clear hi)))
                      go_ret
                      exact ⟨by first | rfl | (simp [errW_none, errW_some] <;> rfl) | (simp [*, errW_none, errW_some] <;> rfl), by repeat (first | (with_reducible first | exact HB.out | apply below_alloc | apply pw_below_drewN | apply below_drew1) | exact HB.out)⟩
                · rw [if_neg c10] at H
                  exact absurd H (by simp)
              · rw [if_neg c9] at H
                exact absurd H (by simp)

/-- THE ONE PURE STATEMENT of laws_FnCleanTwice: yours. -/
def laws_FnCleanTwice.Pure : Prop := ∀ (a0 : ByteArray) (a1 : ByteArray), a0.size ≤ 140737488351232 → a1.size ≤ 140737488351232 → ∃ k, laws_FnCleanTwice.f k a0 a1 = some true
theorem laws_FnCleanTwice.walk (P : laws_FnCleanTwice.Pure) (a0 : ByteArray) (a1 : ByteArray) (w : World) (w0 : a0.size ≤ 140737488351232) (w1 : a1.size ≤ 140737488351232) :
    Calls Try.prog 6 #[.string a0, .string a1] w fun e w' => e = .returned (.bool true) ∧ Below w.heap.size w w' := by
  obtain ⟨k, h⟩ := P a0 a1 w0 w1
  refine (laws_FnCleanTwice.calls k a0 a1 true w h).mono ?_
  rintro e w' ⟨rfl, hd⟩
  exact ⟨rfl, hd⟩

end Go.Proofs.Ytfnogloefimeiaa.P
