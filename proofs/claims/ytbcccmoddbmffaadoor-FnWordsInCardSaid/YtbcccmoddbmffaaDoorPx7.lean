-- WRITTEN by xprint.py (a program of this session, over the kit's print) out of the translation. Not trusted: Lean checks it.
import Derived.Test.YtbcccmoddbmffaaDoorPx0
import Derived.Test.YtbcccmoddbmffaaDoorPx1
import Derived.Test.YtbcccmoddbmffaaDoorPx2
import Derived.Test.YtbcccmoddbmffaaDoorPx3
import Derived.Test.YtbcccmoddbmffaaDoorPx5
import Derived.Test.YtbcccmoddbmffaaDoorPx6
namespace Go.Proofs.YtbcccmoddbmffaaDoor.P
open Go.RowKit Go.Proofs.YtbcccmoddbmffaaDoorW.PrintWords Go.Proofs.YtbcccmoddbmffaaDoorW.PrintLast Go.Proofs.YtbcccmoddbmffaaDoorW.PrintMore
attribute [local go_sem] max2_int min2_int max_two min_two max_three min_three max_four min_four   -- for this text's walks alone
set_option linter.unusedVariables false
set_option linter.unusedSimpArgs false

/-! ### xstrings_WordCount: function 60 -/
def xstrings_WordCount.l0 : Nat → ByteArray → Int → Bool → Option (Int)
  | 0, _, _, _ => none
  | k + 1, x0, x5, x6 => if (x0.size : Int) > 0 then ((utf8_DecodeRuneInString.f x0).bind fun bt133 => ((xstrings_isAlphabet.f k bt133.1).bind fun t135 => (if t135 = true then (if x6 = true then (if 0 ≤ bt133.2 then (if bt133.2 ≤ (x0.size : Int) then (xstrings_WordCount.l0 k (x0.extract (bt133.2 : Int).toNat x0.size) x5 x6) else (none)) else (none)) else (if 0 ≤ bt133.2 then (if bt133.2 ≤ (x0.size : Int) then (xstrings_WordCount.l0 k (x0.extract (bt133.2 : Int).toNat x0.size) (wrap64 (x5 + 1)) true) else (none)) else (none))) else (if x6 = true then (if bt133.1 = 39 then (if 0 ≤ bt133.2 then (if bt133.2 ≤ (x0.size : Int) then (xstrings_WordCount.l0 k (x0.extract (bt133.2 : Int).toNat x0.size) x5 x6) else (none)) else (none)) else (if bt133.1 = 45 then (if 0 ≤ bt133.2 then (if bt133.2 ≤ (x0.size : Int) then (xstrings_WordCount.l0 k (x0.extract (bt133.2 : Int).toNat x0.size) x5 x6) else (none)) else (none)) else (if 0 ≤ bt133.2 then (if bt133.2 ≤ (x0.size : Int) then (xstrings_WordCount.l0 k (x0.extract (bt133.2 : Int).toNat x0.size) x5 false) else (none)) else (none)))) else (if 0 ≤ bt133.2 then (if bt133.2 ≤ (x0.size : Int) then (xstrings_WordCount.l0 k (x0.extract (bt133.2 : Int).toNat x0.size) x5 false) else (none)) else (none)))))) else (some x5)
def xstrings_WordCount.f (k : Nat) (a0 : ByteArray) : Option (Int) := xstrings_WordCount.l0 k a0 0 false
theorem xstrings_WordCount.mono_l : ∀ k, (∀ y0 y1 y2, LeO (xstrings_WordCount.l0 k y0 y1 y2) (xstrings_WordCount.l0 (k + 1) y0 y1 y2))
  | 0 => fun _ _ _ r h => by simp [xstrings_WordCount.l0] at h
  | k + 1 => by
    have ih0 := xstrings_WordCount.mono_l k
    · intro y0 y1 y2
      unfold xstrings_WordCount.l0
      repeat' first
      | (with_reducible exact ih0 _ _ _)
      | (with_reducible exact xstrings_isAlphabet.mono _ _)
      | (with_reducible exact LeO.refl _)
      | (with_reducible exact LeO.none _)
      | (with_reducible refine LeO.ite ?_ ?_)
      | (with_reducible refine LeO.bind ?_ (fun _ => ?_))
      | exact ih0 _ _ _
      | exact xstrings_isAlphabet.mono _ _
      | exact LeO.none _
      | refine LeO.ite ?_ ?_
      | refine LeO.bind ?_ (fun _ => ?_)
theorem xstrings_WordCount.mono : ∀ a0 k, LeO (xstrings_WordCount.f k a0) (xstrings_WordCount.f (k + 1) a0) := by
  intro a0 k
  have ih0 := xstrings_WordCount.mono_l k
  unfold xstrings_WordCount.f
  repeat' first
      | (with_reducible exact ih0 _ _ _)
      | (with_reducible exact xstrings_isAlphabet.mono _ _)
      | (with_reducible exact LeO.refl _)
      | (with_reducible exact LeO.none _)
      | (with_reducible refine LeO.ite ?_ ?_)
      | (with_reducible refine LeO.bind ?_ (fun _ => ?_))
      | exact ih0 _ _ _
      | exact xstrings_isAlphabet.mono _ _
      | exact LeO.none _
      | refine LeO.ite ?_ ?_
      | refine LeO.bind ?_ (fun _ => ?_)
set_option maxHeartbeats 8000000 in
set_option maxRecDepth 100000 in
theorem xstrings_WordCount.calls (k : Nat) (a0 : ByteArray) (r : Int) (w : World) (h : xstrings_WordCount.f k a0 = some r) (HT0P : TabsP w) (HT0U : TabsU w) :
    Calls Tryd.prog 60 #[.string a0] w fun e w' => e = .returned (.int .i64 r) ∧ Below w.heap.size w w' := by
  have HTP := Aside0.mk HT0P
  clear HT0P
  have HTU := Aside0.mk HT0U
  clear HT0U
  have HB := Aside0.mk (Below.refl w.heap.size w)
  have H : (xstrings_WordCount.l0 k a0 0 false) = some r := h
  clear h
  have H' := Aside0.mk H
  clear H
  go_enter Tryd.func60, Tryd.ntmps60
  go_wp2
  go_loopg [0, 5, 6] k (fun kq v0 v5 v6 w' => ∃ (x0_1 : ByteArray) (x5_1 : Int) (x6_1 : Bool), v0 = .string x0_1 ∧ v5 = .int .i64 x5_1 ∧ v6 = .bool x6_1 ∧ Aside0 (xstrings_WordCount.l0 kq x0_1 x5_1 x6_1 = some r) ∧ Aside0 (kq ≤ k) ∧ Aside0 (Below w.heap.size w w'))
  case atStart => exact ⟨(a0), (0), (false), (by first | rfl | (simp; done) | (simp [*]; done)), (by first | rfl | (simp; done) | (simp [*]; done)), (by first | rfl | (simp; done) | (simp [*]; done)), H', ⟨Nat.le_refl _⟩, ⟨by repeat (first | (with_reducible first | exact HB.out | apply below_alloc | apply pw_below_drewN | apply below_drew1) | exact HB.out)⟩⟩
  case round =>
    clear H'
    obtain ⟨x0_1, x5_1, x6_1, rfl, rfl, rfl, HA, HK1, HB⟩ := hrel
    cases gk with
    | zero => exact absurd HA.out (by simp [xstrings_WordCount.l0])
    | succ k1 =>
      have H := HA.out
      clear HA
      simp only [xstrings_WordCount.l0] at H
      by_cases c2 : (x0_1.size : Int) > 0
      · rw [if_pos c2] at H
        have c2b0 : decide (0 < (x0_1.size : Int)) = true := decide_eq_true c2
        have c2b1 : decide (0 < x0_1.size) = true := decide_eq_true (by omega)
        clear c2
        replace H := Option.bind_eq_some_iff.mp H
        obtain ⟨⟨t133, t134⟩, A30, H⟩ := H
        replace H : ((xstrings_isAlphabet.f k1 t133).bind fun t135 => (if t135 = true then (if x6_1 = true then (if 0 ≤ t134 then (if t134 ≤ (x0_1.size : Int) then (xstrings_WordCount.l0 k1 (x0_1.extract (t134 : Int).toNat x0_1.size) x5_1 x6_1) else (none)) else (none)) else (if 0 ≤ t134 then (if t134 ≤ (x0_1.size : Int) then (xstrings_WordCount.l0 k1 (x0_1.extract (t134 : Int).toNat x0_1.size) (wrap64 (x5_1 + 1)) true) else (none)) else (none))) else (if x6_1 = true then (if t133 = 39 then (if 0 ≤ t134 then (if t134 ≤ (x0_1.size : Int) then (xstrings_WordCount.l0 k1 (x0_1.extract (t134 : Int).toNat x0_1.size) x5_1 x6_1) else (none)) else (none)) else (if t133 = 45 then (if 0 ≤ t134 then (if t134 ≤ (x0_1.size : Int) then (xstrings_WordCount.l0 k1 (x0_1.extract (t134 : Int).toNat x0_1.size) x5_1 x6_1) else (none)) else (none)) else (if 0 ≤ t134 then (if t134 ≤ (x0_1.size : Int) then (xstrings_WordCount.l0 k1 (x0_1.extract (t134 : Int).toNat x0_1.size) x5_1 false) else (none)) else (none)))) else (if 0 ≤ t134 then (if t134 ≤ (x0_1.size : Int) then (xstrings_WordCount.l0 k1 (x0_1.extract (t134 : Int).toNat x0_1.size) x5_1 false) else (none)) else (none))))) = some r := H
        have A3 := Aside0.mk A30
        clear A30
        replace H := Option.bind_eq_some_iff.mp H
        obtain ⟨t135, A40, H⟩ := H
        replace H : (if t135 = true then (if x6_1 = true then (if 0 ≤ t134 then (if t134 ≤ (x0_1.size : Int) then (xstrings_WordCount.l0 k1 (x0_1.extract (t134 : Int).toNat x0_1.size) x5_1 x6_1) else (none)) else (none)) else (if 0 ≤ t134 then (if t134 ≤ (x0_1.size : Int) then (xstrings_WordCount.l0 k1 (x0_1.extract (t134 : Int).toNat x0_1.size) (wrap64 (x5_1 + 1)) true) else (none)) else (none))) else (if x6_1 = true then (if t133 = 39 then (if 0 ≤ t134 then (if t134 ≤ (x0_1.size : Int) then (xstrings_WordCount.l0 k1 (x0_1.extract (t134 : Int).toNat x0_1.size) x5_1 x6_1) else (none)) else (none)) else (if t133 = 45 then (if 0 ≤ t134 then (if t134 ≤ (x0_1.size : Int) then (xstrings_WordCount.l0 k1 (x0_1.extract (t134 : Int).toNat x0_1.size) x5_1 x6_1) else (none)) else (none)) else (if 0 ≤ t134 then (if t134 ≤ (x0_1.size : Int) then (xstrings_WordCount.l0 k1 (x0_1.extract (t134 : Int).toNat x0_1.size) x5_1 false) else (none)) else (none)))) else (if 0 ≤ t134 then (if t134 ≤ (x0_1.size : Int) then (xstrings_WordCount.l0 k1 (x0_1.extract (t134 : Int).toNat x0_1.size) x5_1 false) else (none)) else (none)))) = some r := H
        have A4 := Aside0.mk A40
        clear A40
        by_cases c5 : t135 = true
        · subst c5
          have H1 : (if x6_1 = true then (if 0 ≤ t134 then (if t134 ≤ (x0_1.size : Int) then (xstrings_WordCount.l0 k1 (x0_1.extract (t134 : Int).toNat x0_1.size) x5_1 x6_1) else (none)) else (none)) else (if 0 ≤ t134 then (if t134 ≤ (x0_1.size : Int) then (xstrings_WordCount.l0 k1 (x0_1.extract (t134 : Int).toNat x0_1.size) (wrap64 (x5_1 + 1)) true) else (none)) else (none))) = some r := by rw [if_pos rfl] at H; exact H
          clear H
          have H := H1
          clear H1
          by_cases c6 : x6_1 = true
          · subst c6
            have H1 : (if 0 ≤ t134 then (if t134 ≤ (x0_1.size : Int) then (xstrings_WordCount.l0 k1 (x0_1.extract (t134 : Int).toNat x0_1.size) x5_1 true) else (none)) else (none)) = some r := by rw [if_pos rfl] at H; exact H
            clear H
            have H := H1
            clear H1
            by_cases c7 : 0 ≤ t134
            · rw [if_pos c7] at H
              have c7b0 := eq_true c7
              have c7b1 : decide (0 ≤ t134) = true := decide_eq_true c7
              clear c7
              by_cases c8 : t134 ≤ (x0_1.size : Int)
              · rw [if_pos c8] at H
                have c8b0 := eq_true c8
                have c8b1 : decide (t134 ≤ (x0_1.size : Int)) = true := decide_eq_true c8
                clear c8
                have H' := Aside0.mk H
                clear H
                go_wp2_with (first | ((with_reducible refine gate_callee (f := 66) rfl ?_); refine goesL_ (some 12) rfl rfl Tryd.func66 (by kernel_rfl) rfl #[.string x0_1] rfl (by (try simp only [List.map_toArray, List.map_cons, List.map_nil]); first | done | rfl | (simp only [List.length_drop, List.length_take]; rfl)) ?_; (with_reducible refine (utf8_DecodeRuneInString.calls x0_1 t133 t134 _ A3.out (TabsU.below HTU.out (by repeat (first | (with_reducible first | exact HB.out | apply below_alloc | apply pw_below_drewN | apply below_drew1) | exact HB.out)))).mono ?_); rintro e w9 ⟨rfl, hb⟩; refine ⟨_, rfl, ?_⟩; have n0_ := Aside0.mk (below_step (by repeat (first | (with_reducible first | exact HB.out | apply below_alloc | apply pw_below_drewN | apply below_drew1) | exact HB.out)) hb); clear HB; have HB := n0_; clear n0_; (try clear hb); (try clear hb2); (try clear hk); (try clear hi)) | ((with_reducible refine gate_callee (f := 77) rfl ?_); refine goesL_ (some 17) rfl rfl Tryd.func77 (by kernel_rfl) rfl #[.int .i32 t133] rfl (by (try simp only [List.map_toArray, List.map_cons, List.map_nil]); first | done | rfl | (simp only [List.length_drop, List.length_take]; rfl)) ?_; (with_reducible refine (xstrings_isAlphabet.calls k1 t133 true _ A4.out (TabsP.below HTP.out (by repeat (first | (with_reducible first | exact HB.out | apply below_alloc | apply pw_below_drewN | apply below_drew1) | exact HB.out)))).mono ?_); rintro e w10 ⟨rfl, hb⟩; refine ⟨_, rfl, ?_⟩; have n0_ := Aside0.mk (below_step (by repeat (first | (with_reducible first | exact HB.out | apply below_alloc | apply pw_below_drewN | apply below_drew1) | exact HB.out)) hb); clear HB; have HB := n0_; clear n0_; (try clear hb); (try clear hb2); (try clear hk); (try clear hi)))
                go_roundg k1
                case measure => have := HK1.out; omega
                case rel => exact ⟨(x0_1.extract (t134 : Int).toNat x0_1.size), (x5_1), (true), (by first | rfl | (simp; done) | (simp [*]; done)), (by first | rfl | (simp; done) | (simp [*]; done)), (by first | rfl | (simp; done) | (simp [*]; done)), H', ⟨by have := HK1.out; omega⟩, ⟨by repeat (first | (with_reducible first | exact HB.out | apply below_alloc | apply pw_below_drewN | apply below_drew1) | exact HB.out)⟩⟩
              · rw [if_neg c8] at H
                exact absurd H (by simp)
            · rw [if_neg c7] at H
              exact absurd H (by simp)
          · replace c6 := Bool.eq_false_iff.mpr c6
            subst c6
            have H1 : (if 0 ≤ t134 then (if t134 ≤ (x0_1.size : Int) then (xstrings_WordCount.l0 k1 (x0_1.extract (t134 : Int).toNat x0_1.size) (wrap64 (x5_1 + 1)) true) else (none)) else (none)) = some r := by rw [if_neg (show ¬ (false = true) by decide)] at H; exact H
            clear H
            have H := H1
            clear H1
            by_cases c11 : 0 ≤ t134
            · rw [if_pos c11] at H
              have c11b0 := eq_true c11
              have c11b1 : decide (0 ≤ t134) = true := decide_eq_true c11
              clear c11
              by_cases c12 : t134 ≤ (x0_1.size : Int)
              · rw [if_pos c12] at H
                have c12b0 := eq_true c12
                have c12b1 : decide (t134 ≤ (x0_1.size : Int)) = true := decide_eq_true c12
                clear c12
                have H' := Aside0.mk H
                clear H
                go_wp2_with (first | ((with_reducible refine gate_callee (f := 66) rfl ?_); refine goesL_ (some 12) rfl rfl Tryd.func66 (by kernel_rfl) rfl #[.string x0_1] rfl (by (try simp only [List.map_toArray, List.map_cons, List.map_nil]); first | done | rfl | (simp only [List.length_drop, List.length_take]; rfl)) ?_; (with_reducible refine (utf8_DecodeRuneInString.calls x0_1 t133 t134 _ A3.out (TabsU.below HTU.out (by repeat (first | (with_reducible first | exact HB.out | apply below_alloc | apply pw_below_drewN | apply below_drew1) | exact HB.out)))).mono ?_); rintro e w13 ⟨rfl, hb⟩; refine ⟨_, rfl, ?_⟩; have n0_ := Aside0.mk (below_step (by repeat (first | (with_reducible first | exact HB.out | apply below_alloc | apply pw_below_drewN | apply below_drew1) | exact HB.out)) hb); clear HB; have HB := n0_; clear n0_; (try clear hb); (try clear hb2); (try clear hk); (try clear hi)) | ((with_reducible refine gate_callee (f := 77) rfl ?_); refine goesL_ (some 17) rfl rfl Tryd.func77 (by kernel_rfl) rfl #[.int .i32 t133] rfl (by (try simp only [List.map_toArray, List.map_cons, List.map_nil]); first | done | rfl | (simp only [List.length_drop, List.length_take]; rfl)) ?_; (with_reducible refine (xstrings_isAlphabet.calls k1 t133 true _ A4.out (TabsP.below HTP.out (by repeat (first | (with_reducible first | exact HB.out | apply below_alloc | apply pw_below_drewN | apply below_drew1) | exact HB.out)))).mono ?_); rintro e w14 ⟨rfl, hb⟩; refine ⟨_, rfl, ?_⟩; have n0_ := Aside0.mk (below_step (by repeat (first | (with_reducible first | exact HB.out | apply below_alloc | apply pw_below_drewN | apply below_drew1) | exact HB.out)) hb); clear HB; have HB := n0_; clear n0_; (try clear hb); (try clear hb2); (try clear hk); (try clear hi)))
                go_roundg k1
                case measure => have := HK1.out; omega
                case rel => exact ⟨(x0_1.extract (t134 : Int).toNat x0_1.size), (wrap64 (x5_1 + 1)), (true), (by first | rfl | (simp; done) | (simp [*]; done)), (by first | rfl | (simp; done) | (simp [*]; done)), (by first | rfl | (simp; done) | (simp [*]; done)), H', ⟨by have := HK1.out; omega⟩, ⟨by repeat (first | (with_reducible first | exact HB.out | apply below_alloc | apply pw_below_drewN | apply below_drew1) | exact HB.out)⟩⟩
              · rw [if_neg c12] at H
                exact absurd H (by simp)
            · rw [if_neg c11] at H
              exact absurd H (by simp)
        · replace c5 := Bool.eq_false_iff.mpr c5
          subst c5
          have H1 : (if x6_1 = true then (if t133 = 39 then (if 0 ≤ t134 then (if t134 ≤ (x0_1.size : Int) then (xstrings_WordCount.l0 k1 (x0_1.extract (t134 : Int).toNat x0_1.size) x5_1 x6_1) else (none)) else (none)) else (if t133 = 45 then (if 0 ≤ t134 then (if t134 ≤ (x0_1.size : Int) then (xstrings_WordCount.l0 k1 (x0_1.extract (t134 : Int).toNat x0_1.size) x5_1 x6_1) else (none)) else (none)) else (if 0 ≤ t134 then (if t134 ≤ (x0_1.size : Int) then (xstrings_WordCount.l0 k1 (x0_1.extract (t134 : Int).toNat x0_1.size) x5_1 false) else (none)) else (none)))) else (if 0 ≤ t134 then (if t134 ≤ (x0_1.size : Int) then (xstrings_WordCount.l0 k1 (x0_1.extract (t134 : Int).toNat x0_1.size) x5_1 false) else (none)) else (none))) = some r := by rw [if_neg (show ¬ (false = true) by decide)] at H; exact H
          clear H
          have H := H1
          clear H1
          by_cases c15 : x6_1 = true
          · subst c15
            have H1 : (if t133 = 39 then (if 0 ≤ t134 then (if t134 ≤ (x0_1.size : Int) then (xstrings_WordCount.l0 k1 (x0_1.extract (t134 : Int).toNat x0_1.size) x5_1 true) else (none)) else (none)) else (if t133 = 45 then (if 0 ≤ t134 then (if t134 ≤ (x0_1.size : Int) then (xstrings_WordCount.l0 k1 (x0_1.extract (t134 : Int).toNat x0_1.size) x5_1 true) else (none)) else (none)) else (if 0 ≤ t134 then (if t134 ≤ (x0_1.size : Int) then (xstrings_WordCount.l0 k1 (x0_1.extract (t134 : Int).toNat x0_1.size) x5_1 false) else (none)) else (none)))) = some r := by rw [if_pos rfl] at H; exact H
            clear H
            have H := H1
            clear H1
            by_cases c16 : t133 = 39
            · rw [if_pos c16] at H
              have c16b0 : (t133 == 39) = true := beq_iff_eq.mpr c16
              have c16b1 : (t133 != 39) = false := bne_eq_false_iff_eq.mpr c16
              clear c16
              by_cases c17 : 0 ≤ t134
              · rw [if_pos c17] at H
                have c17b0 := eq_true c17
                have c17b1 : decide (0 ≤ t134) = true := decide_eq_true c17
                clear c17
                by_cases c18 : t134 ≤ (x0_1.size : Int)
                · rw [if_pos c18] at H
                  have c18b0 := eq_true c18
                  have c18b1 : decide (t134 ≤ (x0_1.size : Int)) = true := decide_eq_true c18
                  clear c18
                  have H' := Aside0.mk H
                  clear H
                  go_wp2_with (first | ((with_reducible refine gate_callee (f := 66) rfl ?_); refine goesL_ (some 12) rfl rfl Tryd.func66 (by kernel_rfl) rfl #[.string x0_1] rfl (by (try simp only [List.map_toArray, List.map_cons, List.map_nil]); first | done | rfl | (simp only [List.length_drop, List.length_take]; rfl)) ?_; (with_reducible refine (utf8_DecodeRuneInString.calls x0_1 t133 t134 _ A3.out (TabsU.below HTU.out (by repeat (first | (with_reducible first | exact HB.out | apply below_alloc | apply pw_below_drewN | apply below_drew1) | exact HB.out)))).mono ?_); rintro e w19 ⟨rfl, hb⟩; refine ⟨_, rfl, ?_⟩; have n0_ := Aside0.mk (below_step (by repeat (first | (with_reducible first | exact HB.out | apply below_alloc | apply pw_below_drewN | apply below_drew1) | exact HB.out)) hb); clear HB; have HB := n0_; clear n0_; (try clear hb); (try clear hb2); (try clear hk); (try clear hi)) | ((with_reducible refine gate_callee (f := 77) rfl ?_); refine goesL_ (some 17) rfl rfl Tryd.func77 (by kernel_rfl) rfl #[.int .i32 t133] rfl (by (try simp only [List.map_toArray, List.map_cons, List.map_nil]); first | done | rfl | (simp only [List.length_drop, List.length_take]; rfl)) ?_; (with_reducible refine (xstrings_isAlphabet.calls k1 t133 false _ A4.out (TabsP.below HTP.out (by repeat (first | (with_reducible first | exact HB.out | apply below_alloc | apply pw_below_drewN | apply below_drew1) | exact HB.out)))).mono ?_); rintro e w20 ⟨rfl, hb⟩; refine ⟨_, rfl, ?_⟩; have n0_ := Aside0.mk (below_step (by repeat (first | (with_reducible first | exact HB.out | apply below_alloc | apply pw_below_drewN | apply below_drew1) | exact HB.out)) hb); clear HB; have HB := n0_; clear n0_; (try clear hb); (try clear hb2); (try clear hk); (try clear hi)))
                  go_roundg k1
                  case measure => have := HK1.out; omega
                  case rel => exact ⟨(x0_1.extract (t134 : Int).toNat x0_1.size), (x5_1), (true), (by first | rfl | (simp; done) | (simp [*]; done)), (by first | rfl | (simp; done) | (simp [*]; done)), (by first | rfl | (simp; done) | (simp [*]; done)), H', ⟨by have := HK1.out; omega⟩, ⟨by repeat (first | (with_reducible first | exact HB.out | apply below_alloc | apply pw_below_drewN | apply below_drew1) | exact HB.out)⟩⟩
                · rw [if_neg c18] at H
                  exact absurd H (by simp)
              · rw [if_neg c17] at H
                exact absurd H (by simp)
            · rw [if_neg c16] at H
              have c16b0 : (t133 == 39) = false := beq_eq_false_iff_ne.mpr c16
              have c16b1 : (t133 != 39) = true := bne_iff_ne.mpr c16
              by_cases c21 : t133 = 45
              · rw [if_pos c21] at H
                have c21b0 : (t133 == 45) = true := beq_iff_eq.mpr c21
                have c21b1 : (t133 != 45) = false := bne_eq_false_iff_eq.mpr c21
                clear c21
                by_cases c22 : 0 ≤ t134
                · rw [if_pos c22] at H
                  have c22b0 := eq_true c22
                  have c22b1 : decide (0 ≤ t134) = true := decide_eq_true c22
                  clear c22
                  by_cases c23 : t134 ≤ (x0_1.size : Int)
                  · rw [if_pos c23] at H
                    have c23b0 := eq_true c23
                    have c23b1 : decide (t134 ≤ (x0_1.size : Int)) = true := decide_eq_true c23
                    clear c23
                    have H' := Aside0.mk H
                    clear H
                    go_wp2_with (first | ((with_reducible refine gate_callee (f := 66) rfl ?_); refine goesL_ (some 12) rfl rfl Tryd.func66 (by kernel_rfl) rfl #[.string x0_1] rfl (by (try simp only [List.map_toArray, List.map_cons, List.map_nil]); first | done | rfl | (simp only [List.length_drop, List.length_take]; rfl)) ?_; (with_reducible refine (utf8_DecodeRuneInString.calls x0_1 t133 t134 _ A3.out (TabsU.below HTU.out (by repeat (first | (with_reducible first | exact HB.out | apply below_alloc | apply pw_below_drewN | apply below_drew1) | exact HB.out)))).mono ?_); rintro e w24 ⟨rfl, hb⟩; refine ⟨_, rfl, ?_⟩; have n0_ := Aside0.mk (below_step (by repeat (first | (with_reducible first | exact HB.out | apply below_alloc | apply pw_below_drewN | apply below_drew1) | exact HB.out)) hb); clear HB; have HB := n0_; clear n0_; (try clear hb); (try clear hb2); (try clear hk); (try clear hi)) | ((with_reducible refine gate_callee (f := 77) rfl ?_); refine goesL_ (some 17) rfl rfl Tryd.func77 (by kernel_rfl) rfl #[.int .i32 t133] rfl (by (try simp only [List.map_toArray, List.map_cons, List.map_nil]); first | done | rfl | (simp only [List.length_drop, List.length_take]; rfl)) ?_; (with_reducible refine (xstrings_isAlphabet.calls k1 t133 false _ A4.out (TabsP.below HTP.out (by repeat (first | (with_reducible first | exact HB.out | apply below_alloc | apply pw_below_drewN | apply below_drew1) | exact HB.out)))).mono ?_); rintro e w25 ⟨rfl, hb⟩; refine ⟨_, rfl, ?_⟩; have n0_ := Aside0.mk (below_step (by repeat (first | (with_reducible first | exact HB.out | apply below_alloc | apply pw_below_drewN | apply below_drew1) | exact HB.out)) hb); clear HB; have HB := n0_; clear n0_; (try clear hb); (try clear hb2); (try clear hk); (try clear hi)))
                    go_roundg k1
                    case measure => have := HK1.out; omega
                    case rel => exact ⟨(x0_1.extract (t134 : Int).toNat x0_1.size), (x5_1), (true), (by first | rfl | (simp; done) | (simp [*]; done)), (by first | rfl | (simp; done) | (simp [*]; done)), (by first | rfl | (simp; done) | (simp [*]; done)), H', ⟨by have := HK1.out; omega⟩, ⟨by repeat (first | (with_reducible first | exact HB.out | apply below_alloc | apply pw_below_drewN | apply below_drew1) | exact HB.out)⟩⟩
                  · rw [if_neg c23] at H
                    exact absurd H (by simp)
                · rw [if_neg c22] at H
                  exact absurd H (by simp)
              · rw [if_neg c21] at H
                have c21b0 : (t133 == 45) = false := beq_eq_false_iff_ne.mpr c21
                have c21b1 : (t133 != 45) = true := bne_iff_ne.mpr c21
                by_cases c26 : 0 ≤ t134
                · rw [if_pos c26] at H
                  have c26b0 := eq_true c26
                  have c26b1 : decide (0 ≤ t134) = true := decide_eq_true c26
                  clear c26
                  by_cases c27 : t134 ≤ (x0_1.size : Int)
                  · rw [if_pos c27] at H
                    have c27b0 := eq_true c27
                    have c27b1 : decide (t134 ≤ (x0_1.size : Int)) = true := decide_eq_true c27
                    clear c27
                    have H' := Aside0.mk H
                    clear H
                    go_wp2_with (first | ((with_reducible refine gate_callee (f := 66) rfl ?_); refine goesL_ (some 12) rfl rfl Tryd.func66 (by kernel_rfl) rfl #[.string x0_1] rfl (by (try simp only [List.map_toArray, List.map_cons, List.map_nil]); first | done | rfl | (simp only [List.length_drop, List.length_take]; rfl)) ?_; (with_reducible refine (utf8_DecodeRuneInString.calls x0_1 t133 t134 _ A3.out (TabsU.below HTU.out (by repeat (first | (with_reducible first | exact HB.out | apply below_alloc | apply pw_below_drewN | apply below_drew1) | exact HB.out)))).mono ?_); rintro e w28 ⟨rfl, hb⟩; refine ⟨_, rfl, ?_⟩; have n0_ := Aside0.mk (below_step (by repeat (first | (with_reducible first | exact HB.out | apply below_alloc | apply pw_below_drewN | apply below_drew1) | exact HB.out)) hb); clear HB; have HB := n0_; clear n0_; (try clear hb); (try clear hb2); (try clear hk); (try clear hi)) | ((with_reducible refine gate_callee (f := 77) rfl ?_); refine goesL_ (some 17) rfl rfl Tryd.func77 (by kernel_rfl) rfl #[.int .i32 t133] rfl (by (try simp only [List.map_toArray, List.map_cons, List.map_nil]); first | done | rfl | (simp only [List.length_drop, List.length_take]; rfl)) ?_; (with_reducible refine (xstrings_isAlphabet.calls k1 t133 false _ A4.out (TabsP.below HTP.out (by repeat (first | (with_reducible first | exact HB.out | apply below_alloc | apply pw_below_drewN | apply below_drew1) | exact HB.out)))).mono ?_); rintro e w29 ⟨rfl, hb⟩; refine ⟨_, rfl, ?_⟩; have n0_ := Aside0.mk (below_step (by repeat (first | (with_reducible first | exact HB.out | apply below_alloc | apply pw_below_drewN | apply below_drew1) | exact HB.out)) hb); clear HB; have HB := n0_; clear n0_; (try clear hb); (try clear hb2); (try clear hk); (try clear hi)))
                    go_roundg k1
                    case measure => have := HK1.out; omega
                    case rel => exact ⟨(x0_1.extract (t134 : Int).toNat x0_1.size), (x5_1), (false), (by first | rfl | (simp; done) | (simp [*]; done)), (by first | rfl | (simp; done) | (simp [*]; done)), (by first | rfl | (simp; done) | (simp [*]; done)), H', ⟨by have := HK1.out; omega⟩, ⟨by repeat (first | (with_reducible first | exact HB.out | apply below_alloc | apply pw_below_drewN | apply below_drew1) | exact HB.out)⟩⟩
                  · rw [if_neg c27] at H
                    exact absurd H (by simp)
                · rw [if_neg c26] at H
                  exact absurd H (by simp)
          · replace c15 := Bool.eq_false_iff.mpr c15
            subst c15
            have H1 : (if 0 ≤ t134 then (if t134 ≤ (x0_1.size : Int) then (xstrings_WordCount.l0 k1 (x0_1.extract (t134 : Int).toNat x0_1.size) x5_1 false) else (none)) else (none)) = some r := by rw [if_neg (show ¬ (false = true) by decide)] at H; exact H
            clear H
            have H := H1
            clear H1
            by_cases c30 : 0 ≤ t134
            · rw [if_pos c30] at H
              have c30b0 := eq_true c30
              have c30b1 : decide (0 ≤ t134) = true := decide_eq_true c30
              clear c30
              by_cases c31 : t134 ≤ (x0_1.size : Int)
              · rw [if_pos c31] at H
                have c31b0 := eq_true c31
                have c31b1 : decide (t134 ≤ (x0_1.size : Int)) = true := decide_eq_true c31
                clear c31
                have H' := Aside0.mk H
                clear H
                go_wp2_with (first | ((with_reducible refine gate_callee (f := 66) rfl ?_); refine goesL_ (some 12) rfl rfl Tryd.func66 (by kernel_rfl) rfl #[.string x0_1] rfl (by (try simp only [List.map_toArray, List.map_cons, List.map_nil]); first | done | rfl | (simp only [List.length_drop, List.length_take]; rfl)) ?_; (with_reducible refine (utf8_DecodeRuneInString.calls x0_1 t133 t134 _ A3.out (TabsU.below HTU.out (by repeat (first | (with_reducible first | exact HB.out | apply below_alloc | apply pw_below_drewN | apply below_drew1) | exact HB.out)))).mono ?_); rintro e w32 ⟨rfl, hb⟩; refine ⟨_, rfl, ?_⟩; have n0_ := Aside0.mk (below_step (by repeat (first | (with_reducible first | exact HB.out | apply below_alloc | apply pw_below_drewN | apply below_drew1) | exact HB.out)) hb); clear HB; have HB := n0_; clear n0_; (try clear hb); (try clear hb2); (try clear hk); (try clear hi)) | ((with_reducible refine gate_callee (f := 77) rfl ?_); refine goesL_ (some 17) rfl rfl Tryd.func77 (by kernel_rfl) rfl #[.int .i32 t133] rfl (by (try simp only [List.map_toArray, List.map_cons, List.map_nil]); first | done | rfl | (simp only [List.length_drop, List.length_take]; rfl)) ?_; (with_reducible refine (xstrings_isAlphabet.calls k1 t133 false _ A4.out (TabsP.below HTP.out (by repeat (first | (with_reducible first | exact HB.out | apply below_alloc | apply pw_below_drewN | apply below_drew1) | exact HB.out)))).mono ?_); rintro e w33 ⟨rfl, hb⟩; refine ⟨_, rfl, ?_⟩; have n0_ := Aside0.mk (below_step (by repeat (first | (with_reducible first | exact HB.out | apply below_alloc | apply pw_below_drewN | apply below_drew1) | exact HB.out)) hb); clear HB; have HB := n0_; clear n0_; (try clear hb); (try clear hb2); (try clear hk); (try clear hi)))
                go_roundg k1
                case measure => have := HK1.out; omega
                case rel => exact ⟨(x0_1.extract (t134 : Int).toNat x0_1.size), (x5_1), (false), (by first | rfl | (simp; done) | (simp [*]; done)), (by first | rfl | (simp; done) | (simp [*]; done)), (by first | rfl | (simp; done) | (simp [*]; done)), H', ⟨by have := HK1.out; omega⟩, ⟨by repeat (first | (with_reducible first | exact HB.out | apply below_alloc | apply pw_below_drewN | apply below_drew1) | exact HB.out)⟩⟩
              · rw [if_neg c31] at H
                exact absurd H (by simp)
            · rw [if_neg c30] at H
              exact absurd H (by simp)
      · rw [if_neg c2] at H
        have c2b0 : decide (0 < (x0_1.size : Int)) = false := decide_eq_false c2
        have c2b1 : decide (0 < x0_1.size) = false := decide_eq_false (by omega)
        clear c2
        obtain rfl := Option.some.inj H
        go_wp2
        go_ret
        exact ⟨by first | rfl | (simp [errW_none, errW_some] <;> rfl) | (simp [*, errW_none, errW_some] <;> rfl), by repeat (first | (with_reducible first | exact HB.out | apply below_alloc | apply pw_below_drewN | apply below_drew1) | exact HB.out)⟩

/-! ### impl_WordsMany: function 32 -/
def impl_WordsMany.f (k : Nat) (a0 : ByteArray) : Option (Int) := (xstrings_WordCount.f k a0).bind fun t136 => (some t136)
theorem impl_WordsMany.mono : ∀ a0 k, LeO (impl_WordsMany.f k a0) (impl_WordsMany.f (k + 1) a0) := by
  intro a0 k
  unfold impl_WordsMany.f
  repeat' first
      | (with_reducible exact xstrings_WordCount.mono _ _)
      | (with_reducible exact LeO.refl _)
      | (with_reducible exact LeO.none _)
      | (with_reducible refine LeO.ite ?_ ?_)
      | (with_reducible refine LeO.bind ?_ (fun _ => ?_))
      | exact xstrings_WordCount.mono _ _
      | exact LeO.none _
      | refine LeO.ite ?_ ?_
      | refine LeO.bind ?_ (fun _ => ?_)
set_option maxHeartbeats 8000000 in
set_option maxRecDepth 100000 in
theorem impl_WordsMany.calls (k : Nat) (a0 : ByteArray) (r : Int) (w : World) (h : impl_WordsMany.f k a0 = some r) (HT0P : TabsP w) (HT0U : TabsU w) :
    Calls Tryd.prog 32 #[.string a0] w fun e w' => e = .returned (.int .i64 r) ∧ Below w.heap.size w w' := by
  have HTP := Aside0.mk HT0P
  clear HT0P
  have HTU := Aside0.mk HT0U
  clear HT0U
  have HB := Aside0.mk (Below.refl w.heap.size w)
  have H : ((xstrings_WordCount.f k a0).bind fun t136 => (some t136)) = some r := h
  clear h
  replace H := Option.bind_eq_some_iff.mp H
  obtain ⟨t136, A20, H⟩ := H
  replace H : (some t136) = some r := H
  have A2 := Aside0.mk A20
  clear A20
  obtain rfl := Option.some.inj H
  go_enter Tryd.func32, Tryd.ntmps32
  go_wp2_with (first | ((with_reducible refine gate_callee (f := 60) rfl ?_); refine goesL_ (some 4) rfl rfl Tryd.func60 (by kernel_rfl) rfl #[.string a0] rfl (by (try simp only [List.map_toArray, List.map_cons, List.map_nil]); first | done | rfl | (simp only [List.length_drop, List.length_take]; rfl)) ?_; (with_reducible refine (xstrings_WordCount.calls k a0 t136 _ A2.out (TabsP.below HTP.out (by repeat (first | (with_reducible first | exact HB.out | apply below_alloc | apply pw_below_drewN | apply below_drew1) | exact HB.out))) (TabsU.below HTU.out (by repeat (first | (with_reducible first | exact HB.out | apply below_alloc | apply pw_below_drewN | apply below_drew1) | exact HB.out)))).mono ?_); rintro e w3 ⟨rfl, hb⟩; refine ⟨_, rfl, ?_⟩; have n0_ := Aside0.mk (below_step (by repeat (first | (with_reducible first | exact HB.out | apply below_alloc | apply pw_below_drewN | apply below_drew1) | exact HB.out)) hb); clear HB; have HB := n0_; clear n0_; (try clear hb); (try clear hb2); (try clear hk); (try clear hi)))
  go_ret
  exact ⟨by first | rfl | (simp [errW_none, errW_some] <;> rfl) | (simp [*, errW_none, errW_some] <;> rfl), by repeat (first | (with_reducible first | exact HB.out | apply below_alloc | apply pw_below_drewN | apply below_drew1) | exact HB.out)⟩

/-! ### laws_FnWordsIn: function 8 -/
def laws_FnWordsIn.j0 : Nat → ByteArray → Bool → Option (Bool)
  | 0, _, _ => none
  | k + 1, x0, x15 => if x15 = true then (some true) else ((spec_LetterWords.f k x0).bind fun t142 => ((impl_WordsIn.f k x0).bind fun t145 => ((spec_SameTexts.f k t145 t142).bind fun t148 => (if t148 = true then ((impl_WordsMany.f k x0).bind fun t149 => (if t149 = (t142.length : Int) then ((impl_WordsMany.f k (⟨#[97, 32, 98]⟩ : ByteArray)).bind fun t150 => (some (t150 == 2))) else (some false))) else (some false)))))
def laws_FnWordsIn.f (k : Nat) (a0 : ByteArray) : Option (Bool) := if (a0.size : Int) > 2147483647 then (some true) else ((laws_plain9.f k (([a0] : List ByteArray))).bind fun t140 => (if t140 = true then ((spec_Tied.f k a0).bind fun t141 => (laws_FnWordsIn.j0 k a0 (!t141))) else (laws_FnWordsIn.j0 k a0 true)))
theorem laws_FnWordsIn.mono_l : ∀ k, (∀ y0 y1, LeO (laws_FnWordsIn.j0 k y0 y1) (laws_FnWordsIn.j0 (k + 1) y0 y1))
  | 0 => fun _ _ r h => by simp [laws_FnWordsIn.j0] at h
  | k + 1 => by
    have ih0 := laws_FnWordsIn.mono_l k
    · intro y0 y1
      unfold laws_FnWordsIn.j0
      repeat' first
      | (with_reducible exact ih0 _ _)
      | (with_reducible exact impl_WordsIn.mono _ _)
      | (with_reducible exact impl_WordsMany.mono _ _)
      | (with_reducible exact laws_plain9.mono _ _)
      | (with_reducible exact spec_LetterWords.mono _ _)
      | (with_reducible exact spec_SameTexts.mono _ _ _)
      | (with_reducible exact spec_Tied.mono _ _)
      | (with_reducible exact LeO.refl _)
      | (with_reducible exact LeO.none _)
      | (with_reducible refine LeO.ite ?_ ?_)
      | (with_reducible refine LeO.bind ?_ (fun _ => ?_))
      | exact ih0 _ _
      | exact impl_WordsIn.mono _ _
      | exact impl_WordsMany.mono _ _
      | exact laws_plain9.mono _ _
      | exact spec_LetterWords.mono _ _
      | exact spec_SameTexts.mono _ _ _
      | exact spec_Tied.mono _ _
      | exact LeO.none _
      | refine LeO.ite ?_ ?_
      | refine LeO.bind ?_ (fun _ => ?_)
theorem laws_FnWordsIn.mono : ∀ a0 k, LeO (laws_FnWordsIn.f k a0) (laws_FnWordsIn.f (k + 1) a0) := by
  intro a0 k
  have ih0 := laws_FnWordsIn.mono_l k
  unfold laws_FnWordsIn.f
  repeat' first
      | (with_reducible exact ih0 _ _)
      | (with_reducible exact impl_WordsIn.mono _ _)
      | (with_reducible exact impl_WordsMany.mono _ _)
      | (with_reducible exact laws_plain9.mono _ _)
      | (with_reducible exact spec_LetterWords.mono _ _)
      | (with_reducible exact spec_SameTexts.mono _ _ _)
      | (with_reducible exact spec_Tied.mono _ _)
      | (with_reducible exact LeO.refl _)
      | (with_reducible exact LeO.none _)
      | (with_reducible refine LeO.ite ?_ ?_)
      | (with_reducible refine LeO.bind ?_ (fun _ => ?_))
      | exact ih0 _ _
      | exact impl_WordsIn.mono _ _
      | exact impl_WordsMany.mono _ _
      | exact laws_plain9.mono _ _
      | exact spec_LetterWords.mono _ _
      | exact spec_SameTexts.mono _ _ _
      | exact spec_Tied.mono _ _
      | exact LeO.none _
      | refine LeO.ite ?_ ?_
      | refine LeO.bind ?_ (fun _ => ?_)
set_option maxHeartbeats 8000000 in
set_option maxRecDepth 100000 in
theorem laws_FnWordsIn.calls (k : Nat) (a0 : ByteArray) (r : Bool) (w : World) (h : laws_FnWordsIn.f k a0 = some r) (HT0P : TabsP w) (HT0U : TabsU w) :
    Calls Tryd.prog 8 #[.string a0] w fun e w' => e = .returned (.bool r) ∧ Below w.heap.size w w' := by
  have HTP := Aside0.mk HT0P
  clear HT0P
  have HTU := Aside0.mk HT0U
  clear HT0U
  have HB := Aside0.mk (Below.refl w.heap.size w)
  have H : (if (a0.size : Int) > 2147483647 then (some true) else ((laws_plain9.f k (([a0] : List ByteArray))).bind fun t140 => (if t140 = true then ((spec_Tied.f k a0).bind fun t141 => (laws_FnWordsIn.j0 k a0 (!t141))) else (laws_FnWordsIn.j0 k a0 true)))) = some r := h
  clear h
  by_cases c2 : (a0.size : Int) > 2147483647
  · rw [if_pos c2] at H
    have c2b0 : decide (2147483647 < (a0.size : Int)) = true := decide_eq_true c2
    have c2b1 : decide (2147483647 < a0.size) = true := decide_eq_true (by omega)
    clear c2
    obtain rfl := Option.some.inj H
    go_enter Tryd.func8, Tryd.ntmps8
    go_wp2
    go_ret
    exact ⟨by first | rfl | (simp [errW_none, errW_some] <;> rfl) | (simp [*, errW_none, errW_some] <;> rfl), by repeat (first | (with_reducible first | exact HB.out | apply below_alloc | apply pw_below_drewN | apply below_drew1) | exact HB.out)⟩
  · rw [if_neg c2] at H
    have c2b0 : decide (2147483647 < (a0.size : Int)) = false := decide_eq_false c2
    have c2b1 : decide (2147483647 < a0.size) = false := decide_eq_false (by omega)
    clear c2
    have HC3 := Aside0.mk H
    clear H
    go_enter Tryd.func8, Tryd.ntmps8
    go_upto_region 3 with (fail)
    go_cut [15] (fun v15 wc => ∃ (kq : Nat) (x15_2 : Bool), v15 = .bool x15_2 ∧ Aside0 (laws_FnWordsIn.j0 kq a0 x15_2 = some r) ∧ Aside0 (kq ≤ k) ∧ Aside0 (Below w.heap.size w wc))
    case first =>
      have H := HC3.out
      clear HC3
      obtain ⟨y137, hy137⟩ : ∃ y_ : List ByteArray, y_ = (([a0] : List ByteArray)) := ⟨_, rfl⟩
      replace H : ((laws_plain9.f k y137).bind fun t140 => (if t140 = true then ((spec_Tied.f k a0).bind fun t141 => (laws_FnWordsIn.j0 k a0 (!t141))) else (laws_FnWordsIn.j0 k a0 true))) = some r := by first | (rw [hy137]; with_reducible exact H) | (have H2_ := (Option.bind_some _ _).symm.trans H; rw [hy137]; with_reducible exact H2_) | (have H2_ := (Option.bind_some _ _).symm.trans H; with_reducible exact H2_) | with_reducible exact H | (rw [hy137]; exact H) | exact H
      have Ny137 := Aside0.mk hy137
      clear hy137
      replace H := Option.bind_eq_some_iff.mp H
      obtain ⟨t140, A40, H⟩ := H
      replace H : (if t140 = true then ((spec_Tied.f k a0).bind fun t141 => (laws_FnWordsIn.j0 k a0 (!t141))) else (laws_FnWordsIn.j0 k a0 true)) = some r := H
      have A4 := Aside0.mk A40
      clear A40
      by_cases c5 : t140 = true
      · subst c5
        have H1 : ((spec_Tied.f k a0).bind fun t141 => (laws_FnWordsIn.j0 k a0 (!t141))) = some r := by rw [if_pos rfl] at H; exact H
        clear H
        have H := H1
        clear H1
        replace H := Option.bind_eq_some_iff.mp H
        obtain ⟨t141, A60, H⟩ := H
        replace H : (laws_FnWordsIn.j0 k a0 (!t141)) = some r := H
        have A6 := Aside0.mk A60
        clear A60
        have H' := Aside0.mk H
        clear H
        go_wp2_with (first | ((with_reducible refine gate_dst (N := 8) rfl ?_); (try (refine gate_guard (by rfl) ?_; dsimp only)); refine Kd.R_lit Kd.string _ 9 ?hg (N := 8) ?hd (xs := ([a0] : List ByteArray)) (inner := [.string a0]) (ok := fun _ => True) (okp := fun _ => True) ?hr ?hp (fun _ hk => hk) trivial (Below.refl _ _) (Nat.le_refl _) (by simp) ?_; (case hd => rfl); (case hg => rfl); (case hr => first | (go_simp; done) | (go_simp; rfl)); (case hp => exact (Reps.one (show Kd.M Kd.string _ _ _ a0 [.string a0] from rfl) (Reps.none _ _))); intro v138 w7 ho8 hb hg_ hnew_; clear hg_ hnew_; (first | rw [← Ny137.out] at ho8 | (simp only [Int.reduceToNat] at ho8; rw [← Ny137.out] at ho8)); have n0_ := Aside0.mk (Kd.R_lower ho8 (below_size (by repeat (first | (with_reducible first | exact HB.out | apply below_alloc | apply pw_below_drewN | apply below_drew1) | exact HB.out)))); have n1_ := Aside0.mk (below_step (by repeat (first | (with_reducible first | exact HB.out | apply below_alloc | apply pw_below_drewN | apply below_drew1) | exact HB.out)) hb); clear HB; have HO139 := n0_; have HB := n1_; clear n0_ n1_; clear hb ho8; obtain ⟨Ao9, co9, eo9⟩ := Kd.R_slice HO139.out; subst eo9) | ((with_reducible refine gate_callee (f := 24) rfl ?_); refine goesL_ (some 9) rfl rfl Tryd.func24 (by kernel_rfl) rfl #[.slice Ao9 y137.length co9] rfl (by (try simp only [List.map_toArray, List.map_cons, List.map_nil]); first | done | rfl | (simp only [List.length_drop, List.length_take]; rfl)) ?_; (with_reducible refine (laws_plain9.calls k _ _ y137 true _ ?side1 ?side2 A4.out).mono ?_); (case side1 => repeat (first | exact (Kd.R_reads' HO139.out).2.2 | (with_reducible refine Kd.C_alloc ?_ _) | (with_reducible refine Kd.C_drewN ?_ _) | (with_reducible refine Kd.C_drew ?_))); (case side2 => exact (Kd.R_reads' HO139.out).2.1); rintro e w' ⟨rfl, ⟨nd, rfl⟩⟩; refine ⟨_, rfl, ?_⟩) | (go_at_call 28; (with_reducible refine (spec_Tied.calls k a0 t141 _ A6.out).mono ?_); rintro e w' ⟨rfl, ⟨nd, rfl⟩⟩))
        go_meet
        case rel => exact ⟨_, (!t141), (by first | rfl | (simp; done) | (simp [*]; done)), H', ⟨by first | omega | exact Nat.le_refl _⟩, ⟨by repeat (first | (with_reducible first | exact HB.out | apply below_alloc | apply pw_below_drewN | apply below_drew1) | exact HB.out)⟩⟩
      · replace c5 := Bool.eq_false_iff.mpr c5
        subst c5
        have H1 : (laws_FnWordsIn.j0 k a0 true) = some r := by rw [if_neg (show ¬ (false = true) by decide)] at H; exact H
        clear H
        have H := H1
        clear H1
        have H' := Aside0.mk H
        clear H
        go_wp2_with (first | ((with_reducible refine gate_dst (N := 8) rfl ?_); (try (refine gate_guard (by rfl) ?_; dsimp only)); refine Kd.R_lit Kd.string _ 9 ?hg (N := 8) ?hd (xs := ([a0] : List ByteArray)) (inner := [.string a0]) (ok := fun _ => True) (okp := fun _ => True) ?hr ?hp (fun _ hk => hk) trivial (Below.refl _ _) (Nat.le_refl _) (by simp) ?_; (case hd => rfl); (case hg => rfl); (case hr => first | (go_simp; done) | (go_simp; rfl)); (case hp => exact (Reps.one (show Kd.M Kd.string _ _ _ a0 [.string a0] from rfl) (Reps.none _ _))); intro v138 w10 ho11 hb hg_ hnew_; clear hg_ hnew_; (first | rw [← Ny137.out] at ho11 | (simp only [Int.reduceToNat] at ho11; rw [← Ny137.out] at ho11)); have n0_ := Aside0.mk (Kd.R_lower ho11 (below_size (by repeat (first | (with_reducible first | exact HB.out | apply below_alloc | apply pw_below_drewN | apply below_drew1) | exact HB.out)))); have n1_ := Aside0.mk (below_step (by repeat (first | (with_reducible first | exact HB.out | apply below_alloc | apply pw_below_drewN | apply below_drew1) | exact HB.out)) hb); clear HB; have HO139 := n0_; have HB := n1_; clear n0_ n1_; clear hb ho11; obtain ⟨Ao12, co12, eo12⟩ := Kd.R_slice HO139.out; subst eo12) | ((with_reducible refine gate_callee (f := 24) rfl ?_); refine goesL_ (some 9) rfl rfl Tryd.func24 (by kernel_rfl) rfl #[.slice Ao12 y137.length co12] rfl (by (try simp only [List.map_toArray, List.map_cons, List.map_nil]); first | done | rfl | (simp only [List.length_drop, List.length_take]; rfl)) ?_; (with_reducible refine (laws_plain9.calls k _ _ y137 false _ ?side1 ?side2 A4.out).mono ?_); (case side1 => repeat (first | exact (Kd.R_reads' HO139.out).2.2 | (with_reducible refine Kd.C_alloc ?_ _) | (with_reducible refine Kd.C_drewN ?_ _) | (with_reducible refine Kd.C_drew ?_))); (case side2 => exact (Kd.R_reads' HO139.out).2.1); rintro e w' ⟨rfl, ⟨nd, rfl⟩⟩; refine ⟨_, rfl, ?_⟩))
        go_meet
        case rel => exact ⟨_, (true), (by first | rfl | (simp; done) | (simp [*]; done)), H', ⟨by first | omega | exact Nat.le_refl _⟩, ⟨by repeat (first | (with_reducible first | exact HB.out | apply below_alloc | apply pw_below_drewN | apply below_drew1) | exact HB.out)⟩⟩
    case rest =>
      clear HC3
      try clear c2
      try clear c2b0
      try clear c2b1
      try clear p2
      try clear c5
      try clear c8
      obtain ⟨kq, x15_2, rfl, HA, HJ2, HB⟩ := hcut
      cases kq with
      | zero => exact absurd HA.out (by simp [laws_FnWordsIn.j0])
      | succ kj2 =>
        have H := HA.out
        clear HA
        simp only [laws_FnWordsIn.j0] at H
        by_cases c13 : x15_2 = true
        · subst c13
          have H1 : (some true) = some r := by rw [if_pos rfl] at H; exact H
          clear H
          have H := H1
          clear H1
          obtain rfl := Option.some.inj H
          go_wp2
          go_ret
          exact ⟨by first | rfl | (simp [errW_none, errW_some] <;> rfl) | (simp [*, errW_none, errW_some] <;> rfl), by repeat (first | (with_reducible first | exact HB.out | apply below_alloc | apply pw_below_drewN | apply below_drew1) | exact HB.out)⟩
        · replace c13 := Bool.eq_false_iff.mpr c13
          subst c13
          have H1 : ((spec_LetterWords.f kj2 a0).bind fun t142 => ((impl_WordsIn.f kj2 a0).bind fun t145 => ((spec_SameTexts.f kj2 t145 t142).bind fun t148 => (if t148 = true then ((impl_WordsMany.f kj2 a0).bind fun t149 => (if t149 = (t142.length : Int) then ((impl_WordsMany.f kj2 (⟨#[97, 32, 98]⟩ : ByteArray)).bind fun t150 => (some (t150 == 2))) else (some false))) else (some false))))) = some r := by rw [if_neg (show ¬ (false = true) by decide)] at H; exact H
          clear H
          have H := H1
          clear H1
          replace H := Option.bind_eq_some_iff.mp H
          obtain ⟨t142, A140, H⟩ := H
          replace H : ((impl_WordsIn.f kj2 a0).bind fun t145 => ((spec_SameTexts.f kj2 t145 t142).bind fun t148 => (if t148 = true then ((impl_WordsMany.f kj2 a0).bind fun t149 => (if t149 = (t142.length : Int) then ((impl_WordsMany.f kj2 (⟨#[97, 32, 98]⟩ : ByteArray)).bind fun t150 => (some (t150 == 2))) else (some false))) else (some false)))) = some r := H
          have A14 := Aside0.mk A140
          clear A140
          replace H := Option.bind_eq_some_iff.mp H
          obtain ⟨t145, A150, H⟩ := H
          replace H : ((spec_SameTexts.f kj2 t145 t142).bind fun t148 => (if t148 = true then ((impl_WordsMany.f kj2 a0).bind fun t149 => (if t149 = (t142.length : Int) then ((impl_WordsMany.f kj2 (⟨#[97, 32, 98]⟩ : ByteArray)).bind fun t150 => (some (t150 == 2))) else (some false))) else (some false))) = some r := H
          have A15 := Aside0.mk A150
          clear A150
          replace H := Option.bind_eq_some_iff.mp H
          obtain ⟨t148, A160, H⟩ := H
          replace H : (if t148 = true then ((impl_WordsMany.f kj2 a0).bind fun t149 => (if t149 = (t142.length : Int) then ((impl_WordsMany.f kj2 (⟨#[97, 32, 98]⟩ : ByteArray)).bind fun t150 => (some (t150 == 2))) else (some false))) else (some false)) = some r := H
          have A16 := Aside0.mk A160
          clear A160
          by_cases c17 : t148 = true
          · subst c17
            have H1 : ((impl_WordsMany.f kj2 a0).bind fun t149 => (if t149 = (t142.length : Int) then ((impl_WordsMany.f kj2 (⟨#[97, 32, 98]⟩ : ByteArray)).bind fun t150 => (some (t150 == 2))) else (some false))) = some r := by rw [if_pos rfl] at H; exact H
            clear H
            have H := H1
            clear H1
            replace H := Option.bind_eq_some_iff.mp H
            obtain ⟨t149, A180, H⟩ := H
            replace H : (if t149 = (t142.length : Int) then ((impl_WordsMany.f kj2 (⟨#[97, 32, 98]⟩ : ByteArray)).bind fun t150 => (some (t150 == 2))) else (some false)) = some r := H
            have A18 := Aside0.mk A180
            clear A180
            by_cases c19 : t149 = (t142.length : Int)
            · rw [if_pos c19] at H
              have c19b0 : (t149 == (t142.length : Int)) = true := beq_iff_eq.mpr c19
              have c19b1 : (t149 != (t142.length : Int)) = false := bne_eq_false_iff_eq.mpr c19
              clear c19
              replace H := Option.bind_eq_some_iff.mp H
              obtain ⟨t150, A200, H⟩ := H
              replace H : (some (t150 == 2)) = some r := H
              have A20 := Aside0.mk A200
              clear A200
              obtain rfl := Option.some.inj H
              go_wp2_with (first | ((with_reducible refine gate_callee (f := 29) rfl ?_); refine goesL_ (some 17) rfl rfl Tryd.func29 (by kernel_rfl) rfl #[.string a0] rfl (by (try simp only [List.map_toArray, List.map_cons, List.map_nil]); first | done | rfl | (simp only [List.length_drop, List.length_take]; rfl)) ?_; (with_reducible refine (spec_LetterWords.calls kj2 a0 t142 _ A14.out).mono ?_); rintro e w21 ⟨v143, rfl, ho0, hb⟩; refine ⟨_, rfl, ?_⟩; have n0_ := Aside0.mk (Kd.R_lower ho0 (below_size (by repeat (first | (with_reducible first | exact HB.out | apply below_alloc | apply pw_below_drewN | apply below_drew1) | exact HB.out)))); have n1_ := Aside0.mk (below_step (by repeat (first | (with_reducible first | exact HB.out | apply below_alloc | apply pw_below_drewN | apply below_drew1) | exact HB.out)) hb); clear HB; have HO144 := n0_; have HB := n1_; clear n0_ n1_; (try clear hb); (try clear hb2); (try clear hk); (try clear hi); (try clear ho0)) | ((with_reducible refine gate_callee (f := 31) rfl ?_); refine goesL_ (some 19) rfl rfl Tryd.func31 (by kernel_rfl) rfl #[.string a0] rfl (by (try simp only [List.map_toArray, List.map_cons, List.map_nil]); first | done | rfl | (simp only [List.length_drop, List.length_take]; rfl)) ?_; (with_reducible refine (impl_WordsIn.calls kj2 a0 t145 _ A15.out (TabsP.below HTP.out (by repeat (first | (with_reducible first | exact HB.out | apply below_alloc | apply pw_below_drewN | apply below_drew1) | exact HB.out))) (TabsU.below HTU.out (by repeat (first | (with_reducible first | exact HB.out | apply below_alloc | apply pw_below_drewN | apply below_drew1) | exact HB.out)))).mono ?_); rintro e w22 ⟨v146, rfl, ho0, hb⟩; refine ⟨_, rfl, ?_⟩; have n0_ := Aside0.mk (Kd.R_elder' (by (with_reducible repeat (first | apply Kd.R_alloc | apply Kd.R_drewN | apply Kd.R_drew)); exact HO144.out) (Kd.R_base ho0) hb); have n1_ := Aside0.mk (Kd.R_lower (Kd.R_new' ho0 (Kd.R_lt (by (with_reducible repeat (first | apply Kd.R_alloc | apply Kd.R_drewN | apply Kd.R_drew)); exact HO144.out))) (below_size (by repeat (first | (with_reducible first | exact HB.out | apply below_alloc | apply pw_below_drewN | apply below_drew1) | exact HB.out)))); have n2_ := Aside0.mk (below_step (by repeat (first | (with_reducible first | exact HB.out | apply below_alloc | apply pw_below_drewN | apply below_drew1) | exact HB.out)) hb); clear HO144; clear HB; have HO144 := n0_; have HO147 := n1_; have HB := n2_; clear n0_ n1_ n2_; (try clear hb); (try clear hb2); (try clear hk); (try clear hi); (try clear ho0); obtain ⟨Ao23, co23, eo23⟩ := Kd.R_slice HO147.out; subst eo23; obtain ⟨Ao24, co24, eo24⟩ := Kd.R_slice HO144.out; subst eo24) | ((with_reducible refine gate_callee (f := 30) rfl ?_); refine goesL_ (some 21) rfl rfl Tryd.func30 (by kernel_rfl) rfl #[.slice Ao23 t145.length co23, .slice Ao24 t142.length co24] rfl (by (try simp only [List.map_toArray, List.map_cons, List.map_nil]); first | done | rfl | (simp only [List.length_drop, List.length_take]; rfl)) ?_; (with_reducible refine (spec_SameTexts.calls kj2 _ _ t145 _ _ t142 true _ ?side1 ?side2 ?side3 ?side4 A16.out).mono ?_); (case side1 => repeat (first | exact (Kd.R_reads' HO147.out).2.2 | (with_reducible refine Kd.C_alloc ?_ _) | (with_reducible refine Kd.C_drewN ?_ _) | (with_reducible refine Kd.C_drew ?_))); (case side2 => exact (Kd.R_reads' HO147.out).2.1); (case side3 => repeat (first | exact (Kd.R_reads' HO144.out).2.2 | (with_reducible refine Kd.C_alloc ?_ _) | (with_reducible refine Kd.C_drewN ?_ _) | (with_reducible refine Kd.C_drew ?_))); (case side4 => exact (Kd.R_reads' HO144.out).2.1); rintro e w' ⟨rfl, ⟨nd, rfl⟩⟩; refine ⟨_, rfl, ?_⟩) | (go_at_call 32; (with_reducible refine (impl_WordsMany.calls kj2 a0 t149 _ A18.out (TabsP.below HTP.out (by repeat (first | (with_reducible first | exact HB.out | apply below_alloc | apply pw_below_drewN | apply below_drew1) | exact HB.out))) (TabsU.below HTU.out (by repeat (first | (with_reducible first | exact HB.out | apply below_alloc | apply pw_below_drewN | apply below_drew1) | exact HB.out)))).mono ?_); rintro e w25 ⟨rfl, hb⟩; have n0_ := Aside0.mk (Kd.R_below (by (with_reducible repeat (first | apply Kd.R_alloc | apply Kd.R_drewN | apply Kd.R_drew)); exact HO144.out) hb); have n1_ := Aside0.mk (Kd.R_below (by (with_reducible repeat (first | apply Kd.R_alloc | apply Kd.R_drewN | apply Kd.R_drew)); exact HO147.out) hb); have n2_ := Aside0.mk (below_step (by repeat (first | (with_reducible first | exact HB.out | apply below_alloc | apply pw_below_drewN | apply below_drew1) | exact HB.out)) hb); clear HO144; clear HO147; clear HB; have HO144 := n0_; have HO147 := n1_; have HB := n2_; clear n0_ n1_ n2_; (try clear hb); (try clear hb2); (try clear hk); (try clear hi)) | (go_at_call 32; (with_reducible refine (impl_WordsMany.calls kj2 (⟨#[97, 32, 98]⟩ : ByteArray) t150 _ A20.out (TabsP.below HTP.out (by repeat (first | (with_reducible first | exact HB.out | apply below_alloc | apply pw_below_drewN | apply below_drew1) | exact HB.out))) (TabsU.below HTU.out (by repeat (first | (with_reducible first | exact HB.out | apply below_alloc | apply pw_below_drewN | apply below_drew1) | exact HB.out)))).mono ?_); rintro e w26 ⟨rfl, hb⟩; have n0_ := Aside0.mk (Kd.R_below (by (with_reducible repeat (first | apply Kd.R_alloc | apply Kd.R_drewN | apply Kd.R_drew)); exact HO144.out) hb); have n1_ := Aside0.mk (Kd.R_below (by (with_reducible repeat (first | apply Kd.R_alloc | apply Kd.R_drewN | apply Kd.R_drew)); exact HO147.out) hb); have n2_ := Aside0.mk (below_step (by repeat (first | (with_reducible first | exact HB.out | apply below_alloc | apply pw_below_drewN | apply below_drew1) | exact HB.out)) hb); clear HO144; clear HO147; clear HB; have HO144 := n0_; have HO147 := n1_; have HB := n2_; clear n0_ n1_ n2_; (try clear hb); (try clear hb2); (try clear hk); (try clear hi)))
              go_ret
              exact ⟨by first | rfl | (simp [errW_none, errW_some] <;> rfl) | (simp [*, errW_none, errW_some] <;> rfl), by repeat (first | (with_reducible first | exact HB.out | apply below_alloc | apply pw_below_drewN | apply below_drew1) | exact HB.out)⟩
            · rw [if_neg c19] at H
              have c19b0 : (t149 == (t142.length : Int)) = false := beq_eq_false_iff_ne.mpr c19
              have c19b1 : (t149 != (t142.length : Int)) = true := bne_iff_ne.mpr c19
              obtain rfl := Option.some.inj H
              go_wp2_with (first | ((with_reducible refine gate_callee (f := 29) rfl ?_); refine goesL_ (some 17) rfl rfl Tryd.func29 (by kernel_rfl) rfl #[.string a0] rfl (by (try simp only [List.map_toArray, List.map_cons, List.map_nil]); first | done | rfl | (simp only [List.length_drop, List.length_take]; rfl)) ?_; (with_reducible refine (spec_LetterWords.calls kj2 a0 t142 _ A14.out).mono ?_); rintro e w27 ⟨v143, rfl, ho0, hb⟩; refine ⟨_, rfl, ?_⟩; have n0_ := Aside0.mk (Kd.R_lower ho0 (below_size (by repeat (first | (with_reducible first | exact HB.out | apply below_alloc | apply pw_below_drewN | apply below_drew1) | exact HB.out)))); have n1_ := Aside0.mk (below_step (by repeat (first | (with_reducible first | exact HB.out | apply below_alloc | apply pw_below_drewN | apply below_drew1) | exact HB.out)) hb); clear HB; have HO144 := n0_; have HB := n1_; clear n0_ n1_; (try clear hb); (try clear hb2); (try clear hk); (try clear hi); (try clear ho0)) | ((with_reducible refine gate_callee (f := 31) rfl ?_); refine goesL_ (some 19) rfl rfl Tryd.func31 (by kernel_rfl) rfl #[.string a0] rfl (by (try simp only [List.map_toArray, List.map_cons, List.map_nil]); first | done | rfl | (simp only [List.length_drop, List.length_take]; rfl)) ?_; (with_reducible refine (impl_WordsIn.calls kj2 a0 t145 _ A15.out (TabsP.below HTP.out (by repeat (first | (with_reducible first | exact HB.out | apply below_alloc | apply pw_below_drewN | apply below_drew1) | exact HB.out))) (TabsU.below HTU.out (by repeat (first | (with_reducible first | exact HB.out | apply below_alloc | apply pw_below_drewN | apply below_drew1) | exact HB.out)))).mono ?_); rintro e w28 ⟨v146, rfl, ho0, hb⟩; refine ⟨_, rfl, ?_⟩; have n0_ := Aside0.mk (Kd.R_elder' (by (with_reducible repeat (first | apply Kd.R_alloc | apply Kd.R_drewN | apply Kd.R_drew)); exact HO144.out) (Kd.R_base ho0) hb); have n1_ := Aside0.mk (Kd.R_lower (Kd.R_new' ho0 (Kd.R_lt (by (with_reducible repeat (first | apply Kd.R_alloc | apply Kd.R_drewN | apply Kd.R_drew)); exact HO144.out))) (below_size (by repeat (first | (with_reducible first | exact HB.out | apply below_alloc | apply pw_below_drewN | apply below_drew1) | exact HB.out)))); have n2_ := Aside0.mk (below_step (by repeat (first | (with_reducible first | exact HB.out | apply below_alloc | apply pw_below_drewN | apply below_drew1) | exact HB.out)) hb); clear HO144; clear HB; have HO144 := n0_; have HO147 := n1_; have HB := n2_; clear n0_ n1_ n2_; (try clear hb); (try clear hb2); (try clear hk); (try clear hi); (try clear ho0); obtain ⟨Ao29, co29, eo29⟩ := Kd.R_slice HO147.out; subst eo29; obtain ⟨Ao30, co30, eo30⟩ := Kd.R_slice HO144.out; subst eo30) | ((with_reducible refine gate_callee (f := 30) rfl ?_); refine goesL_ (some 21) rfl rfl Tryd.func30 (by kernel_rfl) rfl #[.slice Ao29 t145.length co29, .slice Ao30 t142.length co30] rfl (by (try simp only [List.map_toArray, List.map_cons, List.map_nil]); first | done | rfl | (simp only [List.length_drop, List.length_take]; rfl)) ?_; (with_reducible refine (spec_SameTexts.calls kj2 _ _ t145 _ _ t142 true _ ?side1 ?side2 ?side3 ?side4 A16.out).mono ?_); (case side1 => repeat (first | exact (Kd.R_reads' HO147.out).2.2 | (with_reducible refine Kd.C_alloc ?_ _) | (with_reducible refine Kd.C_drewN ?_ _) | (with_reducible refine Kd.C_drew ?_))); (case side2 => exact (Kd.R_reads' HO147.out).2.1); (case side3 => repeat (first | exact (Kd.R_reads' HO144.out).2.2 | (with_reducible refine Kd.C_alloc ?_ _) | (with_reducible refine Kd.C_drewN ?_ _) | (with_reducible refine Kd.C_drew ?_))); (case side4 => exact (Kd.R_reads' HO144.out).2.1); rintro e w' ⟨rfl, ⟨nd, rfl⟩⟩; refine ⟨_, rfl, ?_⟩) | (go_at_call 32; (with_reducible refine (impl_WordsMany.calls kj2 a0 t149 _ A18.out (TabsP.below HTP.out (by repeat (first | (with_reducible first | exact HB.out | apply below_alloc | apply pw_below_drewN | apply below_drew1) | exact HB.out))) (TabsU.below HTU.out (by repeat (first | (with_reducible first | exact HB.out | apply below_alloc | apply pw_below_drewN | apply below_drew1) | exact HB.out)))).mono ?_); rintro e w31 ⟨rfl, hb⟩; have n0_ := Aside0.mk (Kd.R_below (by (with_reducible repeat (first | apply Kd.R_alloc | apply Kd.R_drewN | apply Kd.R_drew)); exact HO144.out) hb); have n1_ := Aside0.mk (Kd.R_below (by (with_reducible repeat (first | apply Kd.R_alloc | apply Kd.R_drewN | apply Kd.R_drew)); exact HO147.out) hb); have n2_ := Aside0.mk (below_step (by repeat (first | (with_reducible first | exact HB.out | apply below_alloc | apply pw_below_drewN | apply below_drew1) | exact HB.out)) hb); clear HO144; clear HO147; clear HB; have HO144 := n0_; have HO147 := n1_; have HB := n2_; clear n0_ n1_ n2_; (try clear hb); (try clear hb2); (try clear hk); (try clear hi)))
              go_ret
              exact ⟨by first | rfl | (simp [errW_none, errW_some] <;> rfl) | (simp [*, errW_none, errW_some] <;> rfl), by repeat (first | (with_reducible first | exact HB.out | apply below_alloc | apply pw_below_drewN | apply below_drew1) | exact HB.out)⟩
          · replace c17 := Bool.eq_false_iff.mpr c17
            subst c17
            have H1 : (some false) = some r := by rw [if_neg (show ¬ (false = true) by decide)] at H; exact H
            clear H
            have H := H1
            clear H1
            obtain rfl := Option.some.inj H
            go_wp2_with (first | ((with_reducible refine gate_callee (f := 29) rfl ?_); refine goesL_ (some 17) rfl rfl Tryd.func29 (by kernel_rfl) rfl #[.string a0] rfl (by (try simp only [List.map_toArray, List.map_cons, List.map_nil]); first | done | rfl | (simp only [List.length_drop, List.length_take]; rfl)) ?_; (with_reducible refine (spec_LetterWords.calls kj2 a0 t142 _ A14.out).mono ?_); rintro e w32 ⟨v143, rfl, ho0, hb⟩; refine ⟨_, rfl, ?_⟩; have n0_ := Aside0.mk (Kd.R_lower ho0 (below_size (by repeat (first | (with_reducible first | exact HB.out | apply below_alloc | apply pw_below_drewN | apply below_drew1) | exact HB.out)))); have n1_ := Aside0.mk (below_step (by repeat (first | (with_reducible first | exact HB.out | apply below_alloc | apply pw_below_drewN | apply below_drew1) | exact HB.out)) hb); clear HB; have HO144 := n0_; have HB := n1_; clear n0_ n1_; (try clear hb); (try clear hb2); (try clear hk); (try clear hi); (try clear ho0)) | ((with_reducible refine gate_callee (f := 31) rfl ?_); refine goesL_ (some 19) rfl rfl Tryd.func31 (by kernel_rfl) rfl #[.string a0] rfl (by (try simp only [List.map_toArray, List.map_cons, List.map_nil]); first | done | rfl | (simp only [List.length_drop, List.length_take]; rfl)) ?_; (with_reducible refine (impl_WordsIn.calls kj2 a0 t145 _ A15.out (TabsP.below HTP.out (by repeat (first | (with_reducible first | exact HB.out | apply below_alloc | apply pw_below_drewN | apply below_drew1) | exact HB.out))) (TabsU.below HTU.out (by repeat (first | (with_reducible first | exact HB.out | apply below_alloc | apply pw_below_drewN | apply below_drew1) | exact HB.out)))).mono ?_); rintro e w33 ⟨v146, rfl, ho0, hb⟩; refine ⟨_, rfl, ?_⟩; have n0_ := Aside0.mk (Kd.R_elder' (by (with_reducible repeat (first | apply Kd.R_alloc | apply Kd.R_drewN | apply Kd.R_drew)); exact HO144.out) (Kd.R_base ho0) hb); have n1_ := Aside0.mk (Kd.R_lower (Kd.R_new' ho0 (Kd.R_lt (by (with_reducible repeat (first | apply Kd.R_alloc | apply Kd.R_drewN | apply Kd.R_drew)); exact HO144.out))) (below_size (by repeat (first | (with_reducible first | exact HB.out | apply below_alloc | apply pw_below_drewN | apply below_drew1) | exact HB.out)))); have n2_ := Aside0.mk (below_step (by repeat (first | (with_reducible first | exact HB.out | apply below_alloc | apply pw_below_drewN | apply below_drew1) | exact HB.out)) hb); clear HO144; clear HB; have HO144 := n0_; have HO147 := n1_; have HB := n2_; clear n0_ n1_ n2_; (try clear hb); (try clear hb2); (try clear hk); (try clear hi); (try clear ho0); obtain ⟨Ao34, co34, eo34⟩ := Kd.R_slice HO147.out; subst eo34; obtain ⟨Ao35, co35, eo35⟩ := Kd.R_slice HO144.out; subst eo35) | ((with_reducible refine gate_callee (f := 30) rfl ?_); refine goesL_ (some 21) rfl rfl Tryd.func30 (by kernel_rfl) rfl #[.slice Ao34 t145.length co34, .slice Ao35 t142.length co35] rfl (by (try simp only [List.map_toArray, List.map_cons, List.map_nil]); first | done | rfl | (simp only [List.length_drop, List.length_take]; rfl)) ?_; (with_reducible refine (spec_SameTexts.calls kj2 _ _ t145 _ _ t142 false _ ?side1 ?side2 ?side3 ?side4 A16.out).mono ?_); (case side1 => repeat (first | exact (Kd.R_reads' HO147.out).2.2 | (with_reducible refine Kd.C_alloc ?_ _) | (with_reducible refine Kd.C_drewN ?_ _) | (with_reducible refine Kd.C_drew ?_))); (case side2 => exact (Kd.R_reads' HO147.out).2.1); (case side3 => repeat (first | exact (Kd.R_reads' HO144.out).2.2 | (with_reducible refine Kd.C_alloc ?_ _) | (with_reducible refine Kd.C_drewN ?_ _) | (with_reducible refine Kd.C_drew ?_))); (case side4 => exact (Kd.R_reads' HO144.out).2.1); rintro e w' ⟨rfl, ⟨nd, rfl⟩⟩; refine ⟨_, rfl, ?_⟩))
            go_ret
            exact ⟨by first | rfl | (simp [errW_none, errW_some] <;> rfl) | (simp [*, errW_none, errW_some] <;> rfl), by repeat (first | (with_reducible first | exact HB.out | apply below_alloc | apply pw_below_drewN | apply below_drew1) | exact HB.out)⟩

/-- THE ONE PURE STATEMENT of laws_FnWordsIn: yours. -/
def laws_FnWordsIn.Pure : Prop := ∀ (a0 : ByteArray), a0.size ≤ 140737488351232 → ∃ k, laws_FnWordsIn.f k a0 = some true
theorem laws_FnWordsIn.walk (P : laws_FnWordsIn.Pure) (a0 : ByteArray) (w : World) (w0 : a0.size ≤ 140737488351232) (HT0P : TabsP w) (HT0U : TabsU w) :
    Calls Tryd.prog 8 #[.string a0] w fun e w' => e = .returned (.bool true) ∧ Below w.heap.size w w' := by
  obtain ⟨k, h⟩ := P a0 w0
  refine (laws_FnWordsIn.calls k a0 true w h HT0P HT0U).mono ?_
  rintro e w' ⟨rfl, hd⟩
  exact ⟨rfl, hd⟩

end Go.Proofs.YtbcccmoddbmffaaDoor.P
