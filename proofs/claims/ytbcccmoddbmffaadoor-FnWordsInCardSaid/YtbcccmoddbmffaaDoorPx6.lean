-- WRITTEN by xprint.py (a program of this session, over the kit's print) out of the translation. Not trusted: Lean checks it.
import Derived.Test.YtbcccmoddbmffaaDoorPx0
import Derived.Test.YtbcccmoddbmffaaDoorPx3
import Derived.Test.YtbcccmoddbmffaaDoorPx5
namespace Go.Proofs.YtbcccmoddbmffaaDoor.P
open Go.RowKit Go.Proofs.YtbcccmoddbmffaaDoorW.PrintWords Go.Proofs.YtbcccmoddbmffaaDoorW.PrintLast Go.Proofs.YtbcccmoddbmffaaDoorW.PrintMore
attribute [local go_sem] max2_int min2_int max_two min_two max_three min_three max_four min_four   -- for this text's walks alone
set_option linter.unusedVariables false
set_option linter.unusedSimpArgs false

/-! ### xstrings_isAlphabet: function 77 -/
mutual
def xstrings_isAlphabet.j0 : Nat → Int → Bool → Option (Bool)
  | 0, _, _ => none
  | k + 1, x0, x9 => if x9 = true then (some false) else (if x0 ≥ 13312 then (xstrings_isAlphabet.j1 k x0 (decide (x0 ≤ 19845))) else (xstrings_isAlphabet.j1 k x0 false))
def xstrings_isAlphabet.j1 : Nat → Int → Bool → Option (Bool)
  | 0, _, _ => none
  | k + 1, x0, x16 => if x16 = true then (some false) else (if x0 ≥ 131072 then (if x0 ≤ 178205 then (some false) else (some true)) else (some true))
end
def xstrings_isAlphabet.f (k : Nat) (a0 : Int) : Option (Bool) := (unicode_IsLetter.f a0).bind fun t120 => (if t120 = true then (if a0 < 13312 then (some true) else (if a0 ≥ 19968 then (xstrings_isAlphabet.j0 k a0 (decide (a0 ≤ 40908))) else (xstrings_isAlphabet.j0 k a0 false))) else (some false))
theorem xstrings_isAlphabet.mono_l : ∀ k, (∀ y0 y1, LeO (xstrings_isAlphabet.j0 k y0 y1) (xstrings_isAlphabet.j0 (k + 1) y0 y1)) ∧ (∀ y0 y1, LeO (xstrings_isAlphabet.j1 k y0 y1) (xstrings_isAlphabet.j1 (k + 1) y0 y1))
  | 0 => ⟨fun _ _ r h => by simp [xstrings_isAlphabet.j0] at h, fun _ _ r h => by simp [xstrings_isAlphabet.j1] at h⟩
  | k + 1 => by
    obtain ⟨ih0, ih1⟩ := xstrings_isAlphabet.mono_l k
    refine ⟨?_, ?_⟩
    · intro y0 y1
      unfold xstrings_isAlphabet.j0
      repeat' first
      | (with_reducible exact ih0 _ _)
      | (with_reducible exact ih1 _ _)
      | (with_reducible exact LeO.refl _)
      | (with_reducible exact LeO.none _)
      | (with_reducible refine LeO.ite ?_ ?_)
      | (with_reducible refine LeO.bind ?_ (fun _ => ?_))
      | exact ih0 _ _
      | exact ih1 _ _
      | exact LeO.none _
      | refine LeO.ite ?_ ?_
      | refine LeO.bind ?_ (fun _ => ?_)
    · intro y0 y1
      unfold xstrings_isAlphabet.j1
      repeat' first
      | (with_reducible exact ih0 _ _)
      | (with_reducible exact ih1 _ _)
      | (with_reducible exact LeO.refl _)
      | (with_reducible exact LeO.none _)
      | (with_reducible refine LeO.ite ?_ ?_)
      | (with_reducible refine LeO.bind ?_ (fun _ => ?_))
      | exact ih0 _ _
      | exact ih1 _ _
      | exact LeO.none _
      | refine LeO.ite ?_ ?_
      | refine LeO.bind ?_ (fun _ => ?_)
theorem xstrings_isAlphabet.mono : ∀ a0 k, LeO (xstrings_isAlphabet.f k a0) (xstrings_isAlphabet.f (k + 1) a0) := by
  intro a0 k
  obtain ⟨ih0, ih1⟩ := xstrings_isAlphabet.mono_l k
  unfold xstrings_isAlphabet.f
  repeat' first
      | (with_reducible exact ih0 _ _)
      | (with_reducible exact ih1 _ _)
      | (with_reducible exact LeO.refl _)
      | (with_reducible exact LeO.none _)
      | (with_reducible refine LeO.ite ?_ ?_)
      | (with_reducible refine LeO.bind ?_ (fun _ => ?_))
      | exact ih0 _ _
      | exact ih1 _ _
      | exact LeO.none _
      | refine LeO.ite ?_ ?_
      | refine LeO.bind ?_ (fun _ => ?_)
set_option maxHeartbeats 8000000 in
set_option maxRecDepth 100000 in
theorem xstrings_isAlphabet.calls (k : Nat) (a0 : Int) (r : Bool) (w : World) (h : xstrings_isAlphabet.f k a0 = some r) (HT0P : TabsP w) :
    Calls Tryd.prog 77 #[.int .i32 a0] w fun e w' => e = .returned (.bool r) ∧ Below w.heap.size w w' := by
  have HTP := Aside0.mk HT0P
  clear HT0P
  have HB := Aside0.mk (Below.refl w.heap.size w)
  have H : ((unicode_IsLetter.f a0).bind fun t120 => (if t120 = true then (if a0 < 13312 then (some true) else (if a0 ≥ 19968 then (xstrings_isAlphabet.j0 k a0 (decide (a0 ≤ 40908))) else (xstrings_isAlphabet.j0 k a0 false))) else (some false))) = some r := h
  clear h
  replace H := Option.bind_eq_some_iff.mp H
  obtain ⟨t120, A20, H⟩ := H
  replace H : (if t120 = true then (if a0 < 13312 then (some true) else (if a0 ≥ 19968 then (xstrings_isAlphabet.j0 k a0 (decide (a0 ≤ 40908))) else (xstrings_isAlphabet.j0 k a0 false))) else (some false)) = some r := H
  have A2 := Aside0.mk A20
  clear A20
  by_cases c3 : t120 = true
  · subst c3
    have H1 : (if a0 < 13312 then (some true) else (if a0 ≥ 19968 then (xstrings_isAlphabet.j0 k a0 (decide (a0 ≤ 40908))) else (xstrings_isAlphabet.j0 k a0 false))) = some r := by rw [if_pos rfl] at H; exact H
    clear H
    have H := H1
    clear H1
    by_cases c4 : a0 < 13312
    · rw [if_pos c4] at H
      have c4b0 : decide (a0 < 13312) = true := decide_eq_true c4
      clear c4
      obtain rfl := Option.some.inj H
      go_enter Tryd.func77, Tryd.ntmps77
      go_wp2_with (first | ((with_reducible refine gate_callee (f := 86) rfl ?_); refine goesL_ (some 4) rfl rfl Tryd.func86 (by kernel_rfl) rfl #[.int .i32 a0] rfl (by (try simp only [List.map_toArray, List.map_cons, List.map_nil]); first | done | rfl | (simp only [List.length_drop, List.length_take]; rfl)) ?_; (with_reducible refine (unicode_IsLetter.calls a0 true _ A2.out (TabsP.below HTP.out (by repeat (first | (with_reducible first | exact HB.out | apply below_alloc | apply pw_below_drewN | apply below_drew1) | exact HB.out)))).mono ?_); rintro e w5 ⟨rfl, hb⟩; refine ⟨_, rfl, ?_⟩; have n0_ := Aside0.mk (below_step (by repeat (first | (with_reducible first | exact HB.out | apply below_alloc | apply pw_below_drewN | apply below_drew1) | exact HB.out)) hb); clear HB; have HB := n0_; clear n0_; (try clear hb); (try clear hb2); (try clear hk); (try clear hi)))
      go_ret
      exact ⟨by first | rfl | (simp [errW_none, errW_some] <;> rfl) | (simp [*, errW_none, errW_some] <;> rfl), by repeat (first | (with_reducible first | exact HB.out | apply below_alloc | apply pw_below_drewN | apply below_drew1) | exact HB.out)⟩
    · rw [if_neg c4] at H
      have c4b0 : decide (a0 < 13312) = false := decide_eq_false c4
      clear c4
      have HC6 := Aside0.mk H
      clear H
      go_enter Tryd.func77, Tryd.ntmps77
      go_upto_region 5 with (first | ((with_reducible refine gate_callee (f := 86) rfl ?_); refine goesL_ (some 4) rfl rfl Tryd.func86 (by kernel_rfl) rfl #[.int .i32 a0] rfl (by (try simp only [List.map_toArray, List.map_cons, List.map_nil]); first | done | rfl | (simp only [List.length_drop, List.length_take]; rfl)) ?_; (with_reducible refine (unicode_IsLetter.calls a0 true _ A2.out (TabsP.below HTP.out (by repeat (first | (with_reducible first | exact HB.out | apply below_alloc | apply pw_below_drewN | apply below_drew1) | exact HB.out)))).mono ?_); rintro e w7 ⟨rfl, hb⟩; refine ⟨_, rfl, ?_⟩; have n0_ := Aside0.mk (below_step (by repeat (first | (with_reducible first | exact HB.out | apply below_alloc | apply pw_below_drewN | apply below_drew1) | exact HB.out)) hb); clear HB; have HB := n0_; clear n0_; (try clear hb); (try clear hb2); (try clear hk); (try clear hi)))
      (try simp only [Act.put, List.setIfInBounds_toArray, List.set_cons_zero, List.set_cons_succ])
      go_cut [9] (fun v9 wc => ∃ (kq : Nat) (x9_5 : Bool), v9 = .bool x9_5 ∧ Aside0 (xstrings_isAlphabet.j0 kq a0 x9_5 = some r) ∧ Aside0 (kq ≤ k) ∧ Aside0 (Below w.heap.size w wc))
      case first =>
        have H := HC6.out
        clear HC6
        by_cases c8 : a0 ≥ 19968
        · rw [if_pos c8] at H
          have c8b0 : decide (19968 ≤ a0) = true := decide_eq_true c8
          clear c8
          (first | rw [c8b0] | (simp only [i64_w, i32_w]; rw [c8b0]) | skip)
          have H' := Aside0.mk H
          clear H
          go_wp2
          go_meet
          case rel => exact ⟨_, (decide (a0 ≤ 40908)), (by first | rfl | (simp; done) | (simp [*]; done)), H', ⟨by first | omega | exact Nat.le_refl _⟩, ⟨by repeat (first | (with_reducible first | exact HB.out | apply below_alloc | apply pw_below_drewN | apply below_drew1) | exact HB.out)⟩⟩
        · rw [if_neg c8] at H
          have c8b0 : decide (19968 ≤ a0) = false := decide_eq_false c8
          clear c8
          (first | rw [c8b0] | (simp only [i64_w, i32_w]; rw [c8b0]) | skip)
          have H' := Aside0.mk H
          clear H
          go_wp2
          go_meet
          case rel => exact ⟨_, (false), (by first | rfl | (simp; done) | (simp [*]; done)), H', ⟨by first | omega | exact Nat.le_refl _⟩, ⟨by repeat (first | (with_reducible first | exact HB.out | apply below_alloc | apply pw_below_drewN | apply below_drew1) | exact HB.out)⟩⟩
      case rest =>
        clear HC6
        try clear p2
        try clear c3
        try clear c4
        try clear c4b0
        try clear c7
        try clear c8
        try clear c8b0
        obtain ⟨kq, x9_5, rfl, HA, HJ5, HB⟩ := hcut
        cases kq with
        | zero => exact absurd HA.out (by simp [xstrings_isAlphabet.j0])
        | succ kj5 =>
          have H := HA.out
          clear HA
          simp only [xstrings_isAlphabet.j0] at H
          by_cases c9 : x9_5 = true
          · subst c9
            have H1 : (some false) = some r := by rw [if_pos rfl] at H; exact H
            clear H
            have H := H1
            clear H1
            obtain rfl := Option.some.inj H
            go_wp2
            go_ret
            exact ⟨by first | rfl | (simp [errW_none, errW_some] <;> rfl) | (simp [*, errW_none, errW_some] <;> rfl), by repeat (first | (with_reducible first | exact HB.out | apply below_alloc | apply pw_below_drewN | apply below_drew1) | exact HB.out)⟩
          · replace c9 := Bool.eq_false_iff.mpr c9
            subst c9
            have H1 : (if a0 ≥ 13312 then (xstrings_isAlphabet.j1 kj5 a0 (decide (a0 ≤ 19845))) else (xstrings_isAlphabet.j1 kj5 a0 false)) = some r := by rw [if_neg (show ¬ (false = true) by decide)] at H; exact H
            clear H
            have H := H1
            clear H1
            have HC10 := Aside0.mk H
            clear H
            go_upto_region 7 with (fail)
            go_cut [16] (fun v16 wc => ∃ (kq : Nat) (x16_9 : Bool), v16 = .bool x16_9 ∧ Aside0 (xstrings_isAlphabet.j1 kq a0 x16_9 = some r) ∧ Aside0 (kq ≤ kj5) ∧ Aside0 (Below w.heap.size w wc))
            case first =>
              have H := HC10.out
              clear HC10
              by_cases c11 : a0 ≥ 13312
              · rw [if_pos c11] at H
                have c11b0 : decide (13312 ≤ a0) = true := decide_eq_true c11
                clear c11
                (first | rw [c11b0] | (simp only [i64_w, i32_w]; rw [c11b0]) | skip)
                have H' := Aside0.mk H
                clear H
                go_wp2
                go_meet
                case rel => exact ⟨_, (decide (a0 ≤ 19845)), (by first | rfl | (simp; done) | (simp [*]; done)), H', ⟨by have := HJ5.out; first | omega | exact Nat.le_refl _⟩, ⟨by repeat (first | (with_reducible first | exact HB.out | apply below_alloc | apply pw_below_drewN | apply below_drew1) | exact HB.out)⟩⟩
              · rw [if_neg c11] at H
                have c11b0 : decide (13312 ≤ a0) = false := decide_eq_false c11
                clear c11
                (first | rw [c11b0] | (simp only [i64_w, i32_w]; rw [c11b0]) | skip)
                have H' := Aside0.mk H
                clear H
                go_wp2
                go_meet
                case rel => exact ⟨_, (false), (by first | rfl | (simp; done) | (simp [*]; done)), H', ⟨by have := HJ5.out; first | omega | exact Nat.le_refl _⟩, ⟨by repeat (first | (with_reducible first | exact HB.out | apply below_alloc | apply pw_below_drewN | apply below_drew1) | exact HB.out)⟩⟩
            case rest =>
              clear HC10
              try clear c1
              try clear p2
              try clear c3
              try clear c4
              try clear c4b0
              try clear c7
              try clear c8
              try clear c8b0
              try clear c9
              try clear c11
              try clear c11b0
              try clear p2
              obtain ⟨kq, x16_9, rfl, HA, HJ9, HB⟩ := hcut
              cases kq with
              | zero => exact absurd HA.out (by simp [xstrings_isAlphabet.j1])
              | succ kj9 =>
                have H := HA.out
                clear HA
                simp only [xstrings_isAlphabet.j1] at H
                by_cases c12 : x16_9 = true
                · subst c12
                  have H1 : (some false) = some r := by rw [if_pos rfl] at H; exact H
                  clear H
                  have H := H1
                  clear H1
                  obtain rfl := Option.some.inj H
                  go_wp2
                  go_ret
                  exact ⟨by first | rfl | (simp [errW_none, errW_some] <;> rfl) | (simp [*, errW_none, errW_some] <;> rfl), by repeat (first | (with_reducible first | exact HB.out | apply below_alloc | apply pw_below_drewN | apply below_drew1) | exact HB.out)⟩
                · replace c12 := Bool.eq_false_iff.mpr c12
                  subst c12
                  have H1 : (if a0 ≥ 131072 then (if a0 ≤ 178205 then (some false) else (some true)) else (some true)) = some r := by rw [if_neg (show ¬ (false = true) by decide)] at H; exact H
                  clear H
                  have H := H1
                  clear H1
                  by_cases c13 : a0 ≥ 131072
                  · rw [if_pos c13] at H
                    have c13b0 : decide (131072 ≤ a0) = true := decide_eq_true c13
                    clear c13
                    by_cases c14 : a0 ≤ 178205
                    · rw [if_pos c14] at H
                      have c14b0 : decide (a0 ≤ 178205) = true := decide_eq_true c14
                      clear c14
                      obtain rfl := Option.some.inj H
                      go_wp2
                      go_ret
                      exact ⟨by first | rfl | (simp [errW_none, errW_some] <;> rfl) | (simp [*, errW_none, errW_some] <;> rfl), by repeat (first | (with_reducible first | exact HB.out | apply below_alloc | apply pw_below_drewN | apply below_drew1) | exact HB.out)⟩
                    · rw [if_neg c14] at H
                      have c14b0 : decide (a0 ≤ 178205) = false := decide_eq_false c14
                      clear c14
                      obtain rfl := Option.some.inj H
                      go_wp2
                      go_ret
                      exact ⟨by first | rfl | (simp [errW_none, errW_some] <;> rfl) | (simp [*, errW_none, errW_some] <;> rfl), by repeat (first | (with_reducible first | exact HB.out | apply below_alloc | apply pw_below_drewN | apply below_drew1) | exact HB.out)⟩
                  · rw [if_neg c13] at H
                    have c13b0 : decide (131072 ≤ a0) = false := decide_eq_false c13
                    clear c13
                    obtain rfl := Option.some.inj H
                    go_wp2
                    go_ret
                    exact ⟨by first | rfl | (simp [errW_none, errW_some] <;> rfl) | (simp [*, errW_none, errW_some] <;> rfl), by repeat (first | (with_reducible first | exact HB.out | apply below_alloc | apply pw_below_drewN | apply below_drew1) | exact HB.out)⟩
  · replace c3 := Bool.eq_false_iff.mpr c3
    subst c3
    have H1 : (some false) = some r := by rw [if_neg (show ¬ (false = true) by decide)] at H; exact H
    clear H
    have H := H1
    clear H1
    obtain rfl := Option.some.inj H
    go_enter Tryd.func77, Tryd.ntmps77
    go_wp2_with (first | ((with_reducible refine gate_callee (f := 86) rfl ?_); refine goesL_ (some 4) rfl rfl Tryd.func86 (by kernel_rfl) rfl #[.int .i32 a0] rfl (by (try simp only [List.map_toArray, List.map_cons, List.map_nil]); first | done | rfl | (simp only [List.length_drop, List.length_take]; rfl)) ?_; (with_reducible refine (unicode_IsLetter.calls a0 false _ A2.out (TabsP.below HTP.out (by repeat (first | (with_reducible first | exact HB.out | apply below_alloc | apply pw_below_drewN | apply below_drew1) | exact HB.out)))).mono ?_); rintro e w15 ⟨rfl, hb⟩; refine ⟨_, rfl, ?_⟩; have n0_ := Aside0.mk (below_step (by repeat (first | (with_reducible first | exact HB.out | apply below_alloc | apply pw_below_drewN | apply below_drew1) | exact HB.out)) hb); clear HB; have HB := n0_; clear n0_; (try clear hb); (try clear hb2); (try clear hk); (try clear hi)))
    go_ret
    exact ⟨by first | rfl | (simp [errW_none, errW_some] <;> rfl) | (simp [*, errW_none, errW_some] <;> rfl), by repeat (first | (with_reducible first | exact HB.out | apply below_alloc | apply pw_below_drewN | apply below_drew1) | exact HB.out)⟩

/-! ### xstrings_WordSplit: function 59 -/
mutual
def xstrings_WordSplit.l0 : Nat → ByteArray → ByteArray → List ByteArray → Int → Bool → Option (List ByteArray)
  | 0, _, _, _, _, _ => none
  | k + 1, x0, x3, x4, x7, x8 => if (x0.size : Int) > 0 then ((utf8_DecodeRuneInString.f x0).bind fun bt124 => ((xstrings_isAlphabet.f k bt124.1).bind fun t126 => (if t126 = true then (if x8 = true then (if 0 ≤ bt124.2 then (if bt124.2 ≤ (x0.size : Int) then (xstrings_WordSplit.l0 k (x0.extract (bt124.2 : Int).toNat x0.size) x3 x4 (wrap64 (x7 + bt124.2)) x8) else (none)) else (none)) else (if 0 ≤ bt124.2 then (if bt124.2 ≤ (x0.size : Int) then (xstrings_WordSplit.l0 k (x0.extract (bt124.2 : Int).toNat x0.size) x0 x4 (wrap64 (0 + bt124.2)) true) else (none)) else (none))) else (if x8 = true then (if bt124.1 = 39 then (xstrings_WordSplit.j1 k x0 x3 x4 bt124.2 x7 x8 true) else (xstrings_WordSplit.j1 k x0 x3 x4 bt124.2 x7 x8 (bt124.1 == 45))) else (xstrings_WordSplit.j1 k x0 x3 x4 bt124.2 x7 x8 false))))) else (if x8 = true then (if 0 ≤ x7 then (if x7 ≤ (x3.size : Int) then (if x4.length < 8796093022208 then (some (x4 ++ [x3.extract 0 (x7 : Int).toNat])) else (none)) else (none)) else (none)) else (some x4))
def xstrings_WordSplit.j1 : Nat → ByteArray → ByteArray → List ByteArray → Int → Int → Bool → Bool → Option (List ByteArray)
  | 0, _, _, _, _, _, _, _ => none
  | k + 1, x0, x3, x4, x6, x7, x8, x30 => if x30 = true then (if 0 ≤ x6 then (if x6 ≤ (x0.size : Int) then (xstrings_WordSplit.l0 k (x0.extract (x6 : Int).toNat x0.size) x3 x4 (wrap64 (x7 + x6)) x8) else (none)) else (none)) else (if x8 = true then (if 0 ≤ x7 then (if x7 ≤ (x3.size : Int) then (if x4.length < 8796093022208 then (if 0 ≤ x6 then (if x6 ≤ (x0.size : Int) then (xstrings_WordSplit.l0 k (x0.extract (x6 : Int).toNat x0.size) x3 (x4 ++ [x3.extract 0 (x7 : Int).toNat]) (wrap64 (x7 + x6)) false) else (none)) else (none)) else (none)) else (none)) else (none)) else (if 0 ≤ x6 then (if x6 ≤ (x0.size : Int) then (xstrings_WordSplit.l0 k (x0.extract (x6 : Int).toNat x0.size) x3 x4 (wrap64 (x7 + x6)) x8) else (none)) else (none)))
end
def xstrings_WordSplit.f (k : Nat) (a0 : ByteArray) : Option (List ByteArray) := xstrings_WordSplit.l0 k a0 (⟨#[]⟩ : ByteArray) ([] : List ByteArray) 0 false
theorem xstrings_WordSplit.mono_l : ∀ k, (∀ y0 y1 y2 y3 y4, LeO (xstrings_WordSplit.l0 k y0 y1 y2 y3 y4) (xstrings_WordSplit.l0 (k + 1) y0 y1 y2 y3 y4)) ∧ (∀ y0 y1 y2 y3 y4 y5 y6, LeO (xstrings_WordSplit.j1 k y0 y1 y2 y3 y4 y5 y6) (xstrings_WordSplit.j1 (k + 1) y0 y1 y2 y3 y4 y5 y6))
  | 0 => ⟨fun _ _ _ _ _ r h => by simp [xstrings_WordSplit.l0] at h, fun _ _ _ _ _ _ _ r h => by simp [xstrings_WordSplit.j1] at h⟩
  | k + 1 => by
    obtain ⟨ih0, ih1⟩ := xstrings_WordSplit.mono_l k
    refine ⟨?_, ?_⟩
    · intro y0 y1 y2 y3 y4
      unfold xstrings_WordSplit.l0
      repeat' first
      | (with_reducible exact ih0 _ _ _ _ _)
      | (with_reducible exact ih1 _ _ _ _ _ _ _)
      | (with_reducible exact xstrings_isAlphabet.mono _ _)
      | (with_reducible exact LeO.refl _)
      | (with_reducible exact LeO.none _)
      | (with_reducible refine LeO.ite ?_ ?_)
      | (with_reducible refine LeO.bind ?_ (fun _ => ?_))
      | exact ih0 _ _ _ _ _
      | exact ih1 _ _ _ _ _ _ _
      | exact xstrings_isAlphabet.mono _ _
      | exact LeO.none _
      | refine LeO.ite ?_ ?_
      | refine LeO.bind ?_ (fun _ => ?_)
    · intro y0 y1 y2 y3 y4 y5 y6
      unfold xstrings_WordSplit.j1
      repeat' first
      | (with_reducible exact ih0 _ _ _ _ _)
      | (with_reducible exact ih1 _ _ _ _ _ _ _)
      | (with_reducible exact xstrings_isAlphabet.mono _ _)
      | (with_reducible exact LeO.refl _)
      | (with_reducible exact LeO.none _)
      | (with_reducible refine LeO.ite ?_ ?_)
      | (with_reducible refine LeO.bind ?_ (fun _ => ?_))
      | exact ih0 _ _ _ _ _
      | exact ih1 _ _ _ _ _ _ _
      | exact xstrings_isAlphabet.mono _ _
      | exact LeO.none _
      | refine LeO.ite ?_ ?_
      | refine LeO.bind ?_ (fun _ => ?_)
theorem xstrings_WordSplit.mono : ∀ a0 k, LeO (xstrings_WordSplit.f k a0) (xstrings_WordSplit.f (k + 1) a0) := by
  intro a0 k
  obtain ⟨ih0, ih1⟩ := xstrings_WordSplit.mono_l k
  unfold xstrings_WordSplit.f
  repeat' first
      | (with_reducible exact ih0 _ _ _ _ _)
      | (with_reducible exact ih1 _ _ _ _ _ _ _)
      | (with_reducible exact xstrings_isAlphabet.mono _ _)
      | (with_reducible exact LeO.refl _)
      | (with_reducible exact LeO.none _)
      | (with_reducible refine LeO.ite ?_ ?_)
      | (with_reducible refine LeO.bind ?_ (fun _ => ?_))
      | exact ih0 _ _ _ _ _
      | exact ih1 _ _ _ _ _ _ _
      | exact xstrings_isAlphabet.mono _ _
      | exact LeO.none _
      | refine LeO.ite ?_ ?_
      | refine LeO.bind ?_ (fun _ => ?_)
set_option maxHeartbeats 8000000 in
set_option maxRecDepth 100000 in
theorem xstrings_WordSplit.calls (k : Nat) (a0 : ByteArray) (r : List ByteArray) (w : World) (h : xstrings_WordSplit.f k a0 = some r) (HT0P : TabsP w) (HT0U : TabsU w) :
    Calls Tryd.prog 59 #[.string a0] w fun e w' => ∃ v0_ : Value, e = .returned (v0_) ∧ Kd.R Kd.string 9 w' w.heap.size (fun _ => True) v0_ r ∧ Below w.heap.size w w' := by
  have HTP := Aside0.mk HT0P
  clear HT0P
  have HTU := Aside0.mk HT0U
  clear HT0U
  have HB := Aside0.mk (Below.refl w.heap.size w)
  have H : (xstrings_WordSplit.l0 k a0 (⟨#[]⟩ : ByteArray) ([] : List ByteArray) 0 false) = some r := h
  clear h
  have H' := Aside0.mk H
  clear H
  go_enter Tryd.func59, Tryd.ntmps59
  go_wp2
  go_loopg [0, 3, 4, 7, 8] k (fun kq v0 v3 v4 v7 v8 w' => ∃ (x0_1 : ByteArray) (x3_1 : ByteArray) (x4_1 : List ByteArray) (x7_1 : Int) (x8_1 : Bool), v0 = .string x0_1 ∧ v3 = .string x3_1 ∧ v7 = .int .i64 x7_1 ∧ v8 = .bool x8_1 ∧ Aside0 (xstrings_WordSplit.l0 kq x0_1 x3_1 x4_1 x7_1 x8_1 = some r) ∧ Aside0 (kq ≤ k) ∧ Aside0 (Kd.R Kd.string 9 w' w.heap.size (fun _ => True) v4 x4_1) ∧ Aside0 (Below w.heap.size w w'))
  case atStart => exact ⟨(a0), ((⟨#[]⟩ : ByteArray)), (([] : List ByteArray)), (0), (false), (by first | rfl | (simp; done) | (simp [*]; done)), (by first | rfl | (simp; done) | (simp [*]; done)), (by first | rfl | (simp; done) | (simp [*]; done)), (by first | rfl | (simp; done) | (simp [*]; done)), H', ⟨Nat.le_refl _⟩, ⟨by first | exact Kd.R_nil _ _ _ _ _ | exact Kd.N_nil _ _ _ _ _ | exact Kd.V_nil _ _ _ _ _ | exact Kd.Q_nil _ _ _ _ _ | exact Kd.S_nil _ _ _ _ _⟩, ⟨by repeat (first | (with_reducible first | exact HB.out | apply below_alloc | apply pw_below_drewN | apply below_drew1) | exact HB.out)⟩⟩
  case round =>
    clear H'
    obtain ⟨x0_1, x3_1, x4_1, x7_1, x8_1, rfl, rfl, rfl, rfl, HA, HK1, HO_4, HB⟩ := hrel
    cases gk with
    | zero => exact absurd HA.out (by simp [xstrings_WordSplit.l0])
    | succ k1 =>
      have H := HA.out
      clear HA
      simp only [xstrings_WordSplit.l0] at H
      by_cases c2 : (x0_1.size : Int) > 0
      · rw [if_pos c2] at H
        have c2b0 : decide (0 < (x0_1.size : Int)) = true := decide_eq_true c2
        have c2b1 : decide (0 < x0_1.size) = true := decide_eq_true (by omega)
        clear c2
        replace H := Option.bind_eq_some_iff.mp H
        obtain ⟨⟨t124, t125⟩, A30, H⟩ := H
        replace H : ((xstrings_isAlphabet.f k1 t124).bind fun t126 => (if t126 = true then (if x8_1 = true then (if 0 ≤ t125 then (if t125 ≤ (x0_1.size : Int) then (xstrings_WordSplit.l0 k1 (x0_1.extract (t125 : Int).toNat x0_1.size) x3_1 x4_1 (wrap64 (x7_1 + t125)) x8_1) else (none)) else (none)) else (if 0 ≤ t125 then (if t125 ≤ (x0_1.size : Int) then (xstrings_WordSplit.l0 k1 (x0_1.extract (t125 : Int).toNat x0_1.size) x0_1 x4_1 (wrap64 (0 + t125)) true) else (none)) else (none))) else (if x8_1 = true then (if t124 = 39 then (xstrings_WordSplit.j1 k1 x0_1 x3_1 x4_1 t125 x7_1 x8_1 true) else (xstrings_WordSplit.j1 k1 x0_1 x3_1 x4_1 t125 x7_1 x8_1 (t124 == 45))) else (xstrings_WordSplit.j1 k1 x0_1 x3_1 x4_1 t125 x7_1 x8_1 false)))) = some r := H
        have A3 := Aside0.mk A30
        clear A30
        replace H := Option.bind_eq_some_iff.mp H
        obtain ⟨t126, A40, H⟩ := H
        replace H : (if t126 = true then (if x8_1 = true then (if 0 ≤ t125 then (if t125 ≤ (x0_1.size : Int) then (xstrings_WordSplit.l0 k1 (x0_1.extract (t125 : Int).toNat x0_1.size) x3_1 x4_1 (wrap64 (x7_1 + t125)) x8_1) else (none)) else (none)) else (if 0 ≤ t125 then (if t125 ≤ (x0_1.size : Int) then (xstrings_WordSplit.l0 k1 (x0_1.extract (t125 : Int).toNat x0_1.size) x0_1 x4_1 (wrap64 (0 + t125)) true) else (none)) else (none))) else (if x8_1 = true then (if t124 = 39 then (xstrings_WordSplit.j1 k1 x0_1 x3_1 x4_1 t125 x7_1 x8_1 true) else (xstrings_WordSplit.j1 k1 x0_1 x3_1 x4_1 t125 x7_1 x8_1 (t124 == 45))) else (xstrings_WordSplit.j1 k1 x0_1 x3_1 x4_1 t125 x7_1 x8_1 false))) = some r := H
        have A4 := Aside0.mk A40
        clear A40
        by_cases c5 : t126 = true
        · subst c5
          have H1 : (if x8_1 = true then (if 0 ≤ t125 then (if t125 ≤ (x0_1.size : Int) then (xstrings_WordSplit.l0 k1 (x0_1.extract (t125 : Int).toNat x0_1.size) x3_1 x4_1 (wrap64 (x7_1 + t125)) x8_1) else (none)) else (none)) else (if 0 ≤ t125 then (if t125 ≤ (x0_1.size : Int) then (xstrings_WordSplit.l0 k1 (x0_1.extract (t125 : Int).toNat x0_1.size) x0_1 x4_1 (wrap64 (0 + t125)) true) else (none)) else (none))) = some r := by rw [if_pos rfl] at H; exact H
          clear H
          have H := H1
          clear H1
          by_cases c6 : x8_1 = true
          · subst c6
            have H1 : (if 0 ≤ t125 then (if t125 ≤ (x0_1.size : Int) then (xstrings_WordSplit.l0 k1 (x0_1.extract (t125 : Int).toNat x0_1.size) x3_1 x4_1 (wrap64 (x7_1 + t125)) true) else (none)) else (none)) = some r := by rw [if_pos rfl] at H; exact H
            clear H
            have H := H1
            clear H1
            by_cases c7 : 0 ≤ t125
            · rw [if_pos c7] at H
              have c7b0 := eq_true c7
              have c7b1 : decide (0 ≤ t125) = true := decide_eq_true c7
              clear c7
              by_cases c8 : t125 ≤ (x0_1.size : Int)
              · rw [if_pos c8] at H
                have c8b0 := eq_true c8
                have c8b1 : decide (t125 ≤ (x0_1.size : Int)) = true := decide_eq_true c8
                clear c8
                have H' := Aside0.mk H
                clear H
                go_wp2_with (first | ((with_reducible refine gate_callee (f := 66) rfl ?_); refine goesL_ (some 14) rfl rfl Tryd.func66 (by kernel_rfl) rfl #[.string x0_1] rfl (by (try simp only [List.map_toArray, List.map_cons, List.map_nil]); first | done | rfl | (simp only [List.length_drop, List.length_take]; rfl)) ?_; (with_reducible refine (utf8_DecodeRuneInString.calls x0_1 t124 t125 _ A3.out (TabsU.below HTU.out (by repeat (first | (with_reducible first | exact HB.out | apply below_alloc | apply pw_below_drewN | apply below_drew1) | exact HB.out)))).mono ?_); rintro e w9 ⟨rfl, hb⟩; refine ⟨_, rfl, ?_⟩; have n0_ := Aside0.mk (Kd.R_below (by (with_reducible repeat (first | apply Kd.R_alloc | apply Kd.R_drewN | apply Kd.R_drew)); exact HO_4.out) hb); have n1_ := Aside0.mk (below_step (by repeat (first | (with_reducible first | exact HB.out | apply below_alloc | apply pw_below_drewN | apply below_drew1) | exact HB.out)) hb); clear HO_4; clear HB; have HO_4 := n0_; have HB := n1_; clear n0_ n1_; (try clear hb); (try clear hb2); (try clear hk); (try clear hi)) | ((with_reducible refine gate_callee (f := 77) rfl ?_); refine goesL_ (some 26) rfl rfl Tryd.func77 (by kernel_rfl) rfl #[.int .i32 t124] rfl (by (try simp only [List.map_toArray, List.map_cons, List.map_nil]); first | done | rfl | (simp only [List.length_drop, List.length_take]; rfl)) ?_; (with_reducible refine (xstrings_isAlphabet.calls k1 t124 true _ A4.out (TabsP.below HTP.out (by repeat (first | (with_reducible first | exact HB.out | apply below_alloc | apply pw_below_drewN | apply below_drew1) | exact HB.out)))).mono ?_); rintro e w10 ⟨rfl, hb⟩; refine ⟨_, rfl, ?_⟩; have n0_ := Aside0.mk (Kd.R_below (by (with_reducible repeat (first | apply Kd.R_alloc | apply Kd.R_drewN | apply Kd.R_drew)); exact HO_4.out) hb); have n1_ := Aside0.mk (below_step (by repeat (first | (with_reducible first | exact HB.out | apply below_alloc | apply pw_below_drewN | apply below_drew1) | exact HB.out)) hb); clear HO_4; clear HB; have HO_4 := n0_; have HB := n1_; clear n0_ n1_; (try clear hb); (try clear hb2); (try clear hk); (try clear hi)))
                go_roundg k1
                case measure => have := HK1.out; omega
                case rel => exact ⟨(x0_1.extract (t125 : Int).toNat x0_1.size), (x3_1), (x4_1), (wrap64 (x7_1 + t125)), (true), (by first | rfl | (simp; done) | (simp [*]; done)), (by first | rfl | (simp; done) | (simp [*]; done)), (by first | rfl | (simp; done) | (simp [*]; done)), (by first | rfl | (simp; done) | (simp [*]; done)), H', ⟨by have := HK1.out; omega⟩, ⟨by (with_reducible repeat (first | apply Kd.R_alloc | apply Kd.R_drewN | apply Kd.R_drew)); exact HO_4.out⟩, ⟨by repeat (first | (with_reducible first | exact HB.out | apply below_alloc | apply pw_below_drewN | apply below_drew1) | exact HB.out)⟩⟩
              · rw [if_neg c8] at H
                exact absurd H (by simp)
            · rw [if_neg c7] at H
              exact absurd H (by simp)
          · replace c6 := Bool.eq_false_iff.mpr c6
            subst c6
            have H1 : (if 0 ≤ t125 then (if t125 ≤ (x0_1.size : Int) then (xstrings_WordSplit.l0 k1 (x0_1.extract (t125 : Int).toNat x0_1.size) x0_1 x4_1 (wrap64 (0 + t125)) true) else (none)) else (none)) = some r := by rw [if_neg (show ¬ (false = true) by decide)] at H; exact H
            clear H
            have H := H1
            clear H1
            by_cases c11 : 0 ≤ t125
            · rw [if_pos c11] at H
              have c11b0 := eq_true c11
              have c11b1 : decide (0 ≤ t125) = true := decide_eq_true c11
              clear c11
              by_cases c12 : t125 ≤ (x0_1.size : Int)
              · rw [if_pos c12] at H
                have c12b0 := eq_true c12
                have c12b1 : decide (t125 ≤ (x0_1.size : Int)) = true := decide_eq_true c12
                clear c12
                have H' := Aside0.mk H
                clear H
                go_wp2_with (first | ((with_reducible refine gate_callee (f := 66) rfl ?_); refine goesL_ (some 14) rfl rfl Tryd.func66 (by kernel_rfl) rfl #[.string x0_1] rfl (by (try simp only [List.map_toArray, List.map_cons, List.map_nil]); first | done | rfl | (simp only [List.length_drop, List.length_take]; rfl)) ?_; (with_reducible refine (utf8_DecodeRuneInString.calls x0_1 t124 t125 _ A3.out (TabsU.below HTU.out (by repeat (first | (with_reducible first | exact HB.out | apply below_alloc | apply pw_below_drewN | apply below_drew1) | exact HB.out)))).mono ?_); rintro e w13 ⟨rfl, hb⟩; refine ⟨_, rfl, ?_⟩; have n0_ := Aside0.mk (Kd.R_below (by (with_reducible repeat (first | apply Kd.R_alloc | apply Kd.R_drewN | apply Kd.R_drew)); exact HO_4.out) hb); have n1_ := Aside0.mk (below_step (by repeat (first | (with_reducible first | exact HB.out | apply below_alloc | apply pw_below_drewN | apply below_drew1) | exact HB.out)) hb); clear HO_4; clear HB; have HO_4 := n0_; have HB := n1_; clear n0_ n1_; (try clear hb); (try clear hb2); (try clear hk); (try clear hi)) | ((with_reducible refine gate_callee (f := 77) rfl ?_); refine goesL_ (some 26) rfl rfl Tryd.func77 (by kernel_rfl) rfl #[.int .i32 t124] rfl (by (try simp only [List.map_toArray, List.map_cons, List.map_nil]); first | done | rfl | (simp only [List.length_drop, List.length_take]; rfl)) ?_; (with_reducible refine (xstrings_isAlphabet.calls k1 t124 true _ A4.out (TabsP.below HTP.out (by repeat (first | (with_reducible first | exact HB.out | apply below_alloc | apply pw_below_drewN | apply below_drew1) | exact HB.out)))).mono ?_); rintro e w14 ⟨rfl, hb⟩; refine ⟨_, rfl, ?_⟩; have n0_ := Aside0.mk (Kd.R_below (by (with_reducible repeat (first | apply Kd.R_alloc | apply Kd.R_drewN | apply Kd.R_drew)); exact HO_4.out) hb); have n1_ := Aside0.mk (below_step (by repeat (first | (with_reducible first | exact HB.out | apply below_alloc | apply pw_below_drewN | apply below_drew1) | exact HB.out)) hb); clear HO_4; clear HB; have HO_4 := n0_; have HB := n1_; clear n0_ n1_; (try clear hb); (try clear hb2); (try clear hk); (try clear hi)))
                go_roundg k1
                case measure => have := HK1.out; omega
                case rel => exact ⟨(x0_1.extract (t125 : Int).toNat x0_1.size), (x0_1), (x4_1), (wrap64 (0 + t125)), (true), (by first | rfl | (simp; done) | (simp [*]; done)), (by first | rfl | (simp; done) | (simp [*]; done)), (by first | rfl | (simp; done) | (simp [*]; done)), (by first | rfl | (simp; done) | (simp [*]; done)), H', ⟨by have := HK1.out; omega⟩, ⟨by (with_reducible repeat (first | apply Kd.R_alloc | apply Kd.R_drewN | apply Kd.R_drew)); exact HO_4.out⟩, ⟨by repeat (first | (with_reducible first | exact HB.out | apply below_alloc | apply pw_below_drewN | apply below_drew1) | exact HB.out)⟩⟩
              · rw [if_neg c12] at H
                exact absurd H (by simp)
            · rw [if_neg c11] at H
              exact absurd H (by simp)
        · replace c5 := Bool.eq_false_iff.mpr c5
          subst c5
          have H1 : (if x8_1 = true then (if t124 = 39 then (xstrings_WordSplit.j1 k1 x0_1 x3_1 x4_1 t125 x7_1 x8_1 true) else (xstrings_WordSplit.j1 k1 x0_1 x3_1 x4_1 t125 x7_1 x8_1 (t124 == 45))) else (xstrings_WordSplit.j1 k1 x0_1 x3_1 x4_1 t125 x7_1 x8_1 false)) = some r := by rw [if_neg (show ¬ (false = true) by decide)] at H; exact H
          clear H
          have H := H1
          clear H1
          have HC15 := Aside0.mk H
          clear H
          go_upto_region 16 with (first | ((with_reducible refine gate_callee (f := 66) rfl ?_); refine goesL_ (some 14) rfl rfl Tryd.func66 (by kernel_rfl) rfl #[.string x0_1] rfl (by (try simp only [List.map_toArray, List.map_cons, List.map_nil]); first | done | rfl | (simp only [List.length_drop, List.length_take]; rfl)) ?_; (with_reducible refine (utf8_DecodeRuneInString.calls x0_1 t124 t125 _ A3.out (TabsU.below HTU.out (by repeat (first | (with_reducible first | exact HB.out | apply below_alloc | apply pw_below_drewN | apply below_drew1) | exact HB.out)))).mono ?_); rintro e w16 ⟨rfl, hb⟩; refine ⟨_, rfl, ?_⟩; have n0_ := Aside0.mk (Kd.R_below (by (with_reducible repeat (first | apply Kd.R_alloc | apply Kd.R_drewN | apply Kd.R_drew)); exact HO_4.out) hb); have n1_ := Aside0.mk (below_step (by repeat (first | (with_reducible first | exact HB.out | apply below_alloc | apply pw_below_drewN | apply below_drew1) | exact HB.out)) hb); clear HO_4; clear HB; have HO_4 := n0_; have HB := n1_; clear n0_ n1_; (try clear hb); (try clear hb2); (try clear hk); (try clear hi)) | ((with_reducible refine gate_callee (f := 77) rfl ?_); refine goesL_ (some 26) rfl rfl Tryd.func77 (by kernel_rfl) rfl #[.int .i32 t124] rfl (by (try simp only [List.map_toArray, List.map_cons, List.map_nil]); first | done | rfl | (simp only [List.length_drop, List.length_take]; rfl)) ?_; (with_reducible refine (xstrings_isAlphabet.calls k1 t124 false _ A4.out (TabsP.below HTP.out (by repeat (first | (with_reducible first | exact HB.out | apply below_alloc | apply pw_below_drewN | apply below_drew1) | exact HB.out)))).mono ?_); rintro e w17 ⟨rfl, hb⟩; refine ⟨_, rfl, ?_⟩; have n0_ := Aside0.mk (Kd.R_below (by (with_reducible repeat (first | apply Kd.R_alloc | apply Kd.R_drewN | apply Kd.R_drew)); exact HO_4.out) hb); have n1_ := Aside0.mk (below_step (by repeat (first | (with_reducible first | exact HB.out | apply below_alloc | apply pw_below_drewN | apply below_drew1) | exact HB.out)) hb); clear HO_4; clear HB; have HO_4 := n0_; have HB := n1_; clear n0_ n1_; (try clear hb); (try clear hb2); (try clear hk); (try clear hi)))
          (try simp only [Act.put, List.setIfInBounds_toArray, List.set_cons_zero, List.set_cons_succ])
          go_cut [30] (fun v30 wc => ∃ (kq : Nat) (x30_14 : Bool), v30 = .bool x30_14 ∧ Aside0 (xstrings_WordSplit.j1 kq x0_1 x3_1 x4_1 t125 x7_1 x8_1 x30_14 = some r) ∧ Aside0 (kq ≤ k1) ∧ Aside0 (Kd.R Kd.string 9 wc w.heap.size (fun _ => True) u4 x4_1) ∧ Aside0 (Below w.heap.size w wc))
          case first =>
            have H := HC15.out
            clear HC15
            by_cases c18 : x8_1 = true
            · subst c18
              have H1 : (if t124 = 39 then (xstrings_WordSplit.j1 k1 x0_1 x3_1 x4_1 t125 x7_1 true true) else (xstrings_WordSplit.j1 k1 x0_1 x3_1 x4_1 t125 x7_1 true (t124 == 45))) = some r := by rw [if_pos rfl] at H; exact H
              clear H
              have H := H1
              clear H1
              by_cases c19 : t124 = 39
              · rw [if_pos c19] at H
                have c19b0 : (t124 == 39) = true := beq_iff_eq.mpr c19
                have c19b1 : (t124 != 39) = false := bne_eq_false_iff_eq.mpr c19
                clear c19
                (first | rw [c19b0] | (simp only [i64_w, i32_w]; rw [c19b0]) | skip)
                have H' := Aside0.mk H
                clear H
                go_wp2
                go_meet
                case rel => exact ⟨_, (true), (by first | rfl | (simp; done) | (simp [*]; done)), H', ⟨by have := HK1.out; first | omega | exact Nat.le_refl _⟩, ⟨by (with_reducible repeat (first | apply Kd.R_alloc | apply Kd.R_drewN | apply Kd.R_drew)); exact HO_4.out⟩, ⟨by repeat (first | (with_reducible first | exact HB.out | apply below_alloc | apply pw_below_drewN | apply below_drew1) | exact HB.out)⟩⟩
              · rw [if_neg c19] at H
                have c19b0 : (t124 == 39) = false := beq_eq_false_iff_ne.mpr c19
                have c19b1 : (t124 != 39) = true := bne_iff_ne.mpr c19
                (first | rw [c19b0] | (simp only [i64_w, i32_w]; rw [c19b0]) | skip)
                have H' := Aside0.mk H
                clear H
                go_wp2
                go_meet
                case rel => exact ⟨_, ((t124 == 45)), (by first | rfl | (simp; done) | (simp [*]; done)), H', ⟨by have := HK1.out; first | omega | exact Nat.le_refl _⟩, ⟨by (with_reducible repeat (first | apply Kd.R_alloc | apply Kd.R_drewN | apply Kd.R_drew)); exact HO_4.out⟩, ⟨by repeat (first | (with_reducible first | exact HB.out | apply below_alloc | apply pw_below_drewN | apply below_drew1) | exact HB.out)⟩⟩
            · replace c18 := Bool.eq_false_iff.mpr c18
              subst c18
              have H1 : (xstrings_WordSplit.j1 k1 x0_1 x3_1 x4_1 t125 x7_1 false false) = some r := by rw [if_neg (show ¬ (false = true) by decide)] at H; exact H
              clear H
              have H := H1
              clear H1
              have H' := Aside0.mk H
              clear H
              go_wp2
              go_meet
              case rel => exact ⟨_, (false), (by first | rfl | (simp; done) | (simp [*]; done)), H', ⟨by have := HK1.out; first | omega | exact Nat.le_refl _⟩, ⟨by (with_reducible repeat (first | apply Kd.R_alloc | apply Kd.R_drewN | apply Kd.R_drew)); exact HO_4.out⟩, ⟨by repeat (first | (with_reducible first | exact HB.out | apply below_alloc | apply pw_below_drewN | apply below_drew1) | exact HB.out)⟩⟩
          case rest =>
            clear HC15
            try clear c1
            try clear c2
            try clear c2b0
            try clear c2b1
            try clear p2
            try clear c5
            try clear c6
            try clear p6
            try clear c7
            try clear c7b0
            try clear c7b1
            try clear c8
            try clear c8b0
            try clear c8b1
            try clear c11
            try clear c11b0
            try clear c11b1
            try clear c12
            try clear c12b0
            try clear c12b1
            try clear c18
            try clear c19
            try clear c19b0
            try clear c19b1
            obtain ⟨kq, x30_14, rfl, HA, HJ14, HO_4, HB⟩ := hcut
            cases kq with
            | zero => exact absurd HA.out (by simp [xstrings_WordSplit.j1])
            | succ kj14 =>
              have H := HA.out
              clear HA
              simp only [xstrings_WordSplit.j1] at H
              by_cases c20 : x30_14 = true
              · subst c20
                have H1 : (if 0 ≤ t125 then (if t125 ≤ (x0_1.size : Int) then (xstrings_WordSplit.l0 kj14 (x0_1.extract (t125 : Int).toNat x0_1.size) x3_1 x4_1 (wrap64 (x7_1 + t125)) x8_1) else (none)) else (none)) = some r := by rw [if_pos rfl] at H; exact H
                clear H
                have H := H1
                clear H1
                by_cases c21 : 0 ≤ t125
                · rw [if_pos c21] at H
                  have c21b0 := eq_true c21
                  have c21b1 : decide (0 ≤ t125) = true := decide_eq_true c21
                  clear c21
                  by_cases c22 : t125 ≤ (x0_1.size : Int)
                  · rw [if_pos c22] at H
                    have c22b0 := eq_true c22
                    have c22b1 : decide (t125 ≤ (x0_1.size : Int)) = true := decide_eq_true c22
                    clear c22
                    have H' := Aside0.mk H
                    clear H
                    go_wp2
                    go_roundg kj14
                    case measure => have := HK1.out; have := HJ14.out; omega
                    case rel => exact ⟨(x0_1.extract (t125 : Int).toNat x0_1.size), (x3_1), (x4_1), (wrap64 (x7_1 + t125)), (x8_1), (by first | rfl | (simp; done) | (simp [*]; done)), (by first | rfl | (simp; done) | (simp [*]; done)), (by first | rfl | (simp; done) | (simp [*]; done)), (by first | rfl | (simp; done) | (simp [*]; done)), H', ⟨by have := HK1.out; have := HJ14.out; omega⟩, ⟨by (with_reducible repeat (first | apply Kd.R_alloc | apply Kd.R_drewN | apply Kd.R_drew)); exact HO_4.out⟩, ⟨by repeat (first | (with_reducible first | exact HB.out | apply below_alloc | apply pw_below_drewN | apply below_drew1) | exact HB.out)⟩⟩
                  · rw [if_neg c22] at H
                    exact absurd H (by simp)
                · rw [if_neg c21] at H
                  exact absurd H (by simp)
              · replace c20 := Bool.eq_false_iff.mpr c20
                subst c20
                have H1 : (if x8_1 = true then (if 0 ≤ x7_1 then (if x7_1 ≤ (x3_1.size : Int) then (if x4_1.length < 8796093022208 then (if 0 ≤ t125 then (if t125 ≤ (x0_1.size : Int) then (xstrings_WordSplit.l0 kj14 (x0_1.extract (t125 : Int).toNat x0_1.size) x3_1 (x4_1 ++ [x3_1.extract 0 (x7_1 : Int).toNat]) (wrap64 (x7_1 + t125)) false) else (none)) else (none)) else (none)) else (none)) else (none)) else (if 0 ≤ t125 then (if t125 ≤ (x0_1.size : Int) then (xstrings_WordSplit.l0 kj14 (x0_1.extract (t125 : Int).toNat x0_1.size) x3_1 x4_1 (wrap64 (x7_1 + t125)) x8_1) else (none)) else (none))) = some r := by rw [if_neg (show ¬ (false = true) by decide)] at H; exact H
                clear H
                have H := H1
                clear H1
                by_cases c23 : x8_1 = true
                · subst c23
                  have H1 : (if 0 ≤ x7_1 then (if x7_1 ≤ (x3_1.size : Int) then (if x4_1.length < 8796093022208 then (if 0 ≤ t125 then (if t125 ≤ (x0_1.size : Int) then (xstrings_WordSplit.l0 kj14 (x0_1.extract (t125 : Int).toNat x0_1.size) x3_1 (x4_1 ++ [x3_1.extract 0 (x7_1 : Int).toNat]) (wrap64 (x7_1 + t125)) false) else (none)) else (none)) else (none)) else (none)) else (none)) = some r := by rw [if_pos rfl] at H; exact H
                  clear H
                  have H := H1
                  clear H1
                  by_cases c24 : 0 ≤ x7_1
                  · rw [if_pos c24] at H
                    have c24b0 := eq_true c24
                    have c24b1 : decide (0 ≤ x7_1) = true := decide_eq_true c24
                    clear c24
                    by_cases c25 : x7_1 ≤ (x3_1.size : Int)
                    · rw [if_pos c25] at H
                      have c25b0 := eq_true c25
                      have c25b1 : decide (x7_1 ≤ (x3_1.size : Int)) = true := decide_eq_true c25
                      clear c25
                      by_cases c26 : x4_1.length < 8796093022208
                      · rw [if_pos c26] at H
                        have LMc26 := Aside0.mk c26
                        clear c26
                        obtain ⟨y127, hy127⟩ : ∃ y_ : List ByteArray, y_ = (x4_1 ++ [x3_1.extract 0 (x7_1 : Int).toNat]) := ⟨_, rfl⟩
                        replace H : (if 0 ≤ t125 then (if t125 ≤ (x0_1.size : Int) then (xstrings_WordSplit.l0 kj14 (x0_1.extract (t125 : Int).toNat x0_1.size) x3_1 y127 (wrap64 (x7_1 + t125)) false) else (none)) else (none)) = some r := by first | (rw [hy127]; with_reducible exact H) | (have H2_ := (Option.bind_some _ _).symm.trans H; rw [hy127]; with_reducible exact H2_) | (have H2_ := (Option.bind_some _ _).symm.trans H; with_reducible exact H2_) | with_reducible exact H | (rw [hy127]; exact H) | exact H
                        have Ny127 := Aside0.mk hy127
                        clear hy127
                        by_cases c27 : 0 ≤ t125
                        · rw [if_pos c27] at H
                          have c27b0 := eq_true c27
                          have c27b1 : decide (0 ≤ t125) = true := decide_eq_true c27
                          clear c27
                          by_cases c28 : t125 ≤ (x0_1.size : Int)
                          · rw [if_pos c28] at H
                            have c28b0 := eq_true c28
                            have c28b1 : decide (t125 ≤ (x0_1.size : Int)) = true := decide_eq_true c28
                            clear c28
                            have H' := Aside0.mk H
                            clear H
                            go_wp2_with (first | ((with_reducible refine gate_builtin (b := .append) (xs := #[.tmp 18, .tmp 22]) rfl ?_); at_builtin; refine Kd.R_append Kd.string (w0 := w) w.heap.size rfl (.tmp 18) (.tmp 22) 37 9 (.string ⟨#[]⟩) 16 rfl Tryd.underlying37 info9 rfl (by decide) (by omega) u4 x4_1 (x3_1.extract 0 (x7_1 : Int).toNat) [.string (x3_1.extract 0 (x7_1 : Int).toNat)] (fun _ => True) (fun _ => False) rfl rfl ?aP (fun _ hk => hk.elim) ?aF ?aO ?aB ?aS ?aL ?_; (case aP => exact rfl); (case aB => exact (by repeat (first | (with_reducible first | exact HB.out | apply below_alloc | apply pw_below_drewN | apply below_drew1) | exact HB.out))); (case aF => exact (fun _ _ => trivial)); (case aO => exact (by (with_reducible repeat (first | apply Kd.R_alloc | apply Kd.R_drewN | apply Kd.R_drew)); exact HO_4.out)); (case aS => exact (below_size (by repeat (first | (with_reducible first | exact HB.out | apply below_alloc | apply pw_below_drewN | apply below_drew1) | exact HB.out)))); (case aL => have := LMc26.out; omega); intro v128 w29 ho hb hg hat; rw [← Ny127.out] at ho; have n0_ := Aside0.mk (hb); have n1_ := Aside0.mk (ho); clear HB; clear HO_4; have HB := n0_; have HO129 := n1_; clear n0_ n1_; clear ho hb hg hat))
                            go_roundg kj14
                            case measure => have := HK1.out; have := HJ14.out; omega
                            case rel => exact ⟨(x0_1.extract (t125 : Int).toNat x0_1.size), (x3_1), (y127), (wrap64 (x7_1 + t125)), (false), (by first | rfl | (simp; done) | (simp [*]; done)), (by first | rfl | (simp; done) | (simp [*]; done)), (by first | rfl | (simp; done) | (simp [*]; done)), (by first | rfl | (simp; done) | (simp [*]; done)), H', ⟨by have := HK1.out; have := HJ14.out; omega⟩, ⟨by (with_reducible repeat (first | apply Kd.R_alloc | apply Kd.R_drewN | apply Kd.R_drew)); exact HO129.out⟩, ⟨by repeat (first | (with_reducible first | exact HB.out | apply below_alloc | apply pw_below_drewN | apply below_drew1) | exact HB.out)⟩⟩
                          · rw [if_neg c28] at H
                            exact absurd H (by simp)
                        · rw [if_neg c27] at H
                          exact absurd H (by simp)
                      · rw [if_neg c26] at H
                        exact absurd H (by simp)
                    · rw [if_neg c25] at H
                      exact absurd H (by simp)
                  · rw [if_neg c24] at H
                    exact absurd H (by simp)
                · replace c23 := Bool.eq_false_iff.mpr c23
                  subst c23
                  have H1 : (if 0 ≤ t125 then (if t125 ≤ (x0_1.size : Int) then (xstrings_WordSplit.l0 kj14 (x0_1.extract (t125 : Int).toNat x0_1.size) x3_1 x4_1 (wrap64 (x7_1 + t125)) false) else (none)) else (none)) = some r := by rw [if_neg (show ¬ (false = true) by decide)] at H; exact H
                  clear H
                  have H := H1
                  clear H1
                  by_cases c30 : 0 ≤ t125
                  · rw [if_pos c30] at H
                    have c30b0 := eq_true c30
                    have c30b1 : decide (0 ≤ t125) = true := decide_eq_true c30
                    clear c30
                    by_cases c31 : t125 ≤ (x0_1.size : Int)
                    · rw [if_pos c31] at H
                      have c31b0 := eq_true c31
                      have c31b1 : decide (t125 ≤ (x0_1.size : Int)) = true := decide_eq_true c31
                      clear c31
                      have H' := Aside0.mk H
                      clear H
                      go_wp2
                      go_roundg kj14
                      case measure => have := HK1.out; have := HJ14.out; omega
                      case rel => exact ⟨(x0_1.extract (t125 : Int).toNat x0_1.size), (x3_1), (x4_1), (wrap64 (x7_1 + t125)), (false), (by first | rfl | (simp; done) | (simp [*]; done)), (by first | rfl | (simp; done) | (simp [*]; done)), (by first | rfl | (simp; done) | (simp [*]; done)), (by first | rfl | (simp; done) | (simp [*]; done)), H', ⟨by have := HK1.out; have := HJ14.out; omega⟩, ⟨by (with_reducible repeat (first | apply Kd.R_alloc | apply Kd.R_drewN | apply Kd.R_drew)); exact HO_4.out⟩, ⟨by repeat (first | (with_reducible first | exact HB.out | apply below_alloc | apply pw_below_drewN | apply below_drew1) | exact HB.out)⟩⟩
                    · rw [if_neg c31] at H
                      exact absurd H (by simp)
                  · rw [if_neg c30] at H
                    exact absurd H (by simp)
      · rw [if_neg c2] at H
        have c2b0 : decide (0 < (x0_1.size : Int)) = false := decide_eq_false c2
        have c2b1 : decide (0 < x0_1.size) = false := decide_eq_false (by omega)
        clear c2
        by_cases c32 : x8_1 = true
        · subst c32
          have H1 : (if 0 ≤ x7_1 then (if x7_1 ≤ (x3_1.size : Int) then (if x4_1.length < 8796093022208 then (some (x4_1 ++ [x3_1.extract 0 (x7_1 : Int).toNat])) else (none)) else (none)) else (none)) = some r := by rw [if_pos rfl] at H; exact H
          clear H
          have H := H1
          clear H1
          by_cases c33 : 0 ≤ x7_1
          · rw [if_pos c33] at H
            have c33b0 := eq_true c33
            have c33b1 : decide (0 ≤ x7_1) = true := decide_eq_true c33
            clear c33
            by_cases c34 : x7_1 ≤ (x3_1.size : Int)
            · rw [if_pos c34] at H
              have c34b0 := eq_true c34
              have c34b1 : decide (x7_1 ≤ (x3_1.size : Int)) = true := decide_eq_true c34
              clear c34
              by_cases c35 : x4_1.length < 8796093022208
              · rw [if_pos c35] at H
                have LMc35 := Aside0.mk c35
                clear c35
                obtain ⟨y121, hy121⟩ : ∃ y_ : List ByteArray, y_ = (x4_1 ++ [x3_1.extract 0 (x7_1 : Int).toNat]) := ⟨_, rfl⟩
                replace H : (some y121) = some r := by first | (rw [hy121]; with_reducible exact H) | (have H2_ := (Option.bind_some _ _).symm.trans H; rw [hy121]; with_reducible exact H2_) | (have H2_ := (Option.bind_some _ _).symm.trans H; with_reducible exact H2_) | with_reducible exact H | (rw [hy121]; exact H) | exact H
                have Ny121 := Aside0.mk hy121
                clear hy121
                obtain rfl := Option.some.inj H
                go_wp2_with (first | ((with_reducible refine gate_builtin (b := .append) (xs := #[.tmp 47, .tmp 51]) rfl ?_); at_builtin; refine Kd.R_append Kd.string (w0 := w) w.heap.size rfl (.tmp 47) (.tmp 51) 37 9 (.string ⟨#[]⟩) 16 rfl Tryd.underlying37 info9 rfl (by decide) (by omega) u4 x4_1 (x3_1.extract 0 (x7_1 : Int).toNat) [.string (x3_1.extract 0 (x7_1 : Int).toNat)] (fun _ => True) (fun _ => False) rfl rfl ?aP (fun _ hk => hk.elim) ?aF ?aO ?aB ?aS ?aL ?_; (case aP => exact rfl); (case aB => exact (by repeat (first | (with_reducible first | exact HB.out | apply below_alloc | apply pw_below_drewN | apply below_drew1) | exact HB.out))); (case aF => exact (fun _ _ => trivial)); (case aO => exact (by (with_reducible repeat (first | apply Kd.R_alloc | apply Kd.R_drewN | apply Kd.R_drew)); exact HO_4.out)); (case aS => exact (below_size (by repeat (first | (with_reducible first | exact HB.out | apply below_alloc | apply pw_below_drewN | apply below_drew1) | exact HB.out)))); (case aL => have := LMc35.out; omega); intro v122 w36 ho hb hg hat; rw [← Ny121.out] at ho; have n0_ := Aside0.mk (hb); have n1_ := Aside0.mk (ho); clear HB; clear HO_4; have HB := n0_; have HO123 := n1_; clear n0_ n1_; clear ho hb hg hat))
                go_ret
                exact ⟨_, by first | rfl | (simp [errW_none, errW_some] <;> rfl) | (simp [*, errW_none, errW_some] <;> rfl), by (with_reducible repeat (first | apply Kd.R_alloc | apply Kd.R_drewN | apply Kd.R_drew)); exact HO123.out, by repeat (first | (with_reducible first | exact HB.out | apply below_alloc | apply pw_below_drewN | apply below_drew1) | exact HB.out)⟩
              · rw [if_neg c35] at H
                exact absurd H (by simp)
            · rw [if_neg c34] at H
              exact absurd H (by simp)
          · rw [if_neg c33] at H
            exact absurd H (by simp)
        · replace c32 := Bool.eq_false_iff.mpr c32
          subst c32
          have H1 : (some x4_1) = some r := by rw [if_neg (show ¬ (false = true) by decide)] at H; exact H
          clear H
          have H := H1
          clear H1
          obtain rfl := Option.some.inj H
          go_wp2
          go_ret
          exact ⟨_, by first | rfl | (simp [errW_none, errW_some] <;> rfl) | (simp [*, errW_none, errW_some] <;> rfl), by (with_reducible repeat (first | apply Kd.R_alloc | apply Kd.R_drewN | apply Kd.R_drew)); exact HO_4.out, by repeat (first | (with_reducible first | exact HB.out | apply below_alloc | apply pw_below_drewN | apply below_drew1) | exact HB.out)⟩

/-! ### impl_WordsIn: function 31 -/
def impl_WordsIn.f (k : Nat) (a0 : ByteArray) : Option (List ByteArray) := (xstrings_WordSplit.f k a0).bind fun t130 => (some t130)
theorem impl_WordsIn.mono : ∀ a0 k, LeO (impl_WordsIn.f k a0) (impl_WordsIn.f (k + 1) a0) := by
  intro a0 k
  unfold impl_WordsIn.f
  repeat' first
      | (with_reducible exact xstrings_WordSplit.mono _ _)
      | (with_reducible exact LeO.refl _)
      | (with_reducible exact LeO.none _)
      | (with_reducible refine LeO.ite ?_ ?_)
      | (with_reducible refine LeO.bind ?_ (fun _ => ?_))
      | exact xstrings_WordSplit.mono _ _
      | exact LeO.none _
      | refine LeO.ite ?_ ?_
      | refine LeO.bind ?_ (fun _ => ?_)
set_option maxHeartbeats 8000000 in
set_option maxRecDepth 100000 in
theorem impl_WordsIn.calls (k : Nat) (a0 : ByteArray) (r : List ByteArray) (w : World) (h : impl_WordsIn.f k a0 = some r) (HT0P : TabsP w) (HT0U : TabsU w) :
    Calls Tryd.prog 31 #[.string a0] w fun e w' => ∃ v0_ : Value, e = .returned (v0_) ∧ Kd.R Kd.string 9 w' w.heap.size (fun _ => True) v0_ r ∧ Below w.heap.size w w' := by
  have HTP := Aside0.mk HT0P
  clear HT0P
  have HTU := Aside0.mk HT0U
  clear HT0U
  have HB := Aside0.mk (Below.refl w.heap.size w)
  have H : ((xstrings_WordSplit.f k a0).bind fun t130 => (some t130)) = some r := h
  clear h
  replace H := Option.bind_eq_some_iff.mp H
  obtain ⟨t130, A20, H⟩ := H
  replace H : (some t130) = some r := H
  have A2 := Aside0.mk A20
  clear A20
  obtain rfl := Option.some.inj H
  go_enter Tryd.func31, Tryd.ntmps31
  go_wp2_with (first | ((with_reducible refine gate_callee (f := 59) rfl ?_); refine goesL_ (some 4) rfl rfl Tryd.func59 (by kernel_rfl) rfl #[.string a0] rfl (by (try simp only [List.map_toArray, List.map_cons, List.map_nil]); first | done | rfl | (simp only [List.length_drop, List.length_take]; rfl)) ?_; (with_reducible refine (xstrings_WordSplit.calls k a0 t130 _ A2.out (TabsP.below HTP.out (by repeat (first | (with_reducible first | exact HB.out | apply below_alloc | apply pw_below_drewN | apply below_drew1) | exact HB.out))) (TabsU.below HTU.out (by repeat (first | (with_reducible first | exact HB.out | apply below_alloc | apply pw_below_drewN | apply below_drew1) | exact HB.out)))).mono ?_); rintro e w3 ⟨v131, rfl, ho0, hb⟩; refine ⟨_, rfl, ?_⟩; have n0_ := Aside0.mk (Kd.R_lower ho0 (below_size (by repeat (first | (with_reducible first | exact HB.out | apply below_alloc | apply pw_below_drewN | apply below_drew1) | exact HB.out)))); have n1_ := Aside0.mk (below_step (by repeat (first | (with_reducible first | exact HB.out | apply below_alloc | apply pw_below_drewN | apply below_drew1) | exact HB.out)) hb); clear HB; have HO132 := n0_; have HB := n1_; clear n0_ n1_; (try clear hb); (try clear hb2); (try clear hk); (try clear hi); (try clear ho0)))
  go_ret
  exact ⟨_, by first | rfl | (simp [errW_none, errW_some] <;> rfl) | (simp [*, errW_none, errW_some] <;> rfl), by (with_reducible repeat (first | apply Kd.R_alloc | apply Kd.R_drewN | apply Kd.R_drew)); exact HO132.out, by repeat (first | (with_reducible first | exact HB.out | apply below_alloc | apply pw_below_drewN | apply below_drew1) | exact HB.out)⟩

end Go.Proofs.YtbcccmoddbmffaaDoor.P
