-- WRITTEN by xprint.py (a program of this session, over the kit's print) out of the translation. Not trusted: Lean checks it.
import Derived.Test.YtbcccmoddbmffaaDoorPx0
import Derived.Test.YtbcccmoddbmffaaDoorPx3
import Derived.Test.YtbcccmoddbmffaaDoorPx24
import Derived.Test.YtbcccmoddbmffaaDoorPx25
namespace Go.Proofs.YtbcccmoddbmffaaDoor.P
open Go.RowKit Go.Proofs.YtbcccmoddbmffaaDoorW.PrintWords Go.Proofs.YtbcccmoddbmffaaDoorW.PrintLast Go.Proofs.YtbcccmoddbmffaaDoorW.PrintMore
attribute [local go_sem] max2_int min2_int max_two min_two max_three min_three max_four min_four   -- for this text's walks alone
set_option linter.unusedVariables false
set_option linter.unusedSimpArgs false

/-! ### impl_RightJustify: function 20 -/
def impl_RightJustify.f (a0 : ByteArray) (a1 : Int) (a2 : ByteArray) : Option (ByteArray) := (xstrings_RightJustify.f a0 a1 a2).bind fun t191 => (some t191)
set_option maxHeartbeats 8000000 in
set_option maxRecDepth 100000 in
theorem impl_RightJustify.calls (a0 : ByteArray) (a1 : Int) (a2 : ByteArray) (r : ByteArray) (w : World) (h : impl_RightJustify.f a0 a1 a2 = some r) (HT0U : TabsU w) :
    Calls Tryd.prog 20 #[.string a0, .int .i64 a1, .string a2] w fun e w' => e = .returned (.string r) ∧ Below w.heap.size w w' := by
  have HTU := Aside0.mk HT0U
  clear HT0U
  have HB := Aside0.mk (Below.refl w.heap.size w)
  have H : ((xstrings_RightJustify.f a0 a1 a2).bind fun t191 => (some t191)) = some r := h
  clear h
  replace H := Option.bind_eq_some_iff.mp H
  obtain ⟨t191, A40, H⟩ := H
  replace H : (some t191) = some r := H
  have A4 := Aside0.mk A40
  clear A40
  obtain rfl := Option.some.inj H
  go_enter Tryd.func20, Tryd.ntmps20
  go_wp2_with (first | ((with_reducible refine gate_callee (f := 52) rfl ?_); refine goesL_ (some 10) rfl rfl Tryd.func52 (by kernel_rfl) rfl #[.string a0, .int .i64 a1, .string a2] rfl (by (try simp only [List.map_toArray, List.map_cons, List.map_nil]); first | done | rfl | (simp only [List.length_drop, List.length_take]; rfl)) ?_; (with_reducible refine (xstrings_RightJustify.calls a0 a1 a2 t191 _ A4.out (TabsU.below HTU.out (by repeat (first | (with_reducible first | exact HB.out | apply below_alloc | apply pw_below_drewN | apply below_drew1) | exact HB.out)))).mono ?_); rintro e w5 ⟨rfl, hb⟩; refine ⟨_, rfl, ?_⟩; have n0_ := Aside0.mk (below_step (by repeat (first | (with_reducible first | exact HB.out | apply below_alloc | apply pw_below_drewN | apply below_drew1) | exact HB.out)) hb); clear HB; have HB := n0_; clear n0_; (try clear hb); (try clear hb2); (try clear hk); (try clear hi)))
  go_ret
  exact ⟨by first | rfl | (simp [errW_none, errW_some] <;> rfl) | (simp [*, errW_none, errW_some] <;> rfl), by repeat (first | (with_reducible first | exact HB.out | apply below_alloc | apply pw_below_drewN | apply below_drew1) | exact HB.out)⟩

/-! ### spec_RightJustify: function 21 -/
def spec_RightJustify.f (k : Nat) (a0 : ByteArray) (a1 : Int) (a2 : ByteArray) : Option (ByteArray) := (spec_missing.f a0 a1 a2).bind fun t192 => ((spec_Padded.f k a2 t192).bind fun t193 => (if t193.size + a0.size ≤ 9223372036854775807 then (some (t193 ++ a0)) else (none)))
theorem spec_RightJustify.mono : ∀ a0 a1 a2 k, LeO (spec_RightJustify.f k a0 a1 a2) (spec_RightJustify.f (k + 1) a0 a1 a2) := by
  intro a0 a1 a2 k
  unfold spec_RightJustify.f
  repeat' first
      | (with_reducible exact spec_Padded.mono _ _ _)
      | (with_reducible exact LeO.refl _)
      | (with_reducible exact LeO.none _)
      | (with_reducible refine LeO.ite ?_ ?_)
      | (with_reducible refine LeO.bind ?_ (fun _ => ?_))
      | exact spec_Padded.mono _ _ _
      | exact LeO.none _
      | refine LeO.ite ?_ ?_
      | refine LeO.bind ?_ (fun _ => ?_)
set_option maxHeartbeats 8000000 in
set_option maxRecDepth 100000 in
theorem spec_RightJustify.calls (k : Nat) (a0 : ByteArray) (a1 : Int) (a2 : ByteArray) (r : ByteArray) (w : World) (h : spec_RightJustify.f k a0 a1 a2 = some r) :
    Calls Tryd.prog 21 #[.string a0, .int .i64 a1, .string a2] w fun e w' => e = .returned (.string r) ∧ Below w.heap.size w w' := by
  have HB := Aside0.mk (Below.refl w.heap.size w)
  have H : ((spec_missing.f a0 a1 a2).bind fun t192 => ((spec_Padded.f k a2 t192).bind fun t193 => (if t193.size + a0.size ≤ 9223372036854775807 then (some (t193 ++ a0)) else (none)))) = some r := h
  clear h
  replace H := Option.bind_eq_some_iff.mp H
  obtain ⟨t192, A40, H⟩ := H
  replace H : ((spec_Padded.f k a2 t192).bind fun t193 => (if t193.size + a0.size ≤ 9223372036854775807 then (some (t193 ++ a0)) else (none))) = some r := H
  have A4 := Aside0.mk A40
  clear A40
  replace H := Option.bind_eq_some_iff.mp H
  obtain ⟨t193, A50, H⟩ := H
  replace H : (if t193.size + a0.size ≤ 9223372036854775807 then (some (t193 ++ a0)) else (none)) = some r := H
  have A5 := Aside0.mk A50
  clear A50
  by_cases c6 : t193.size + a0.size ≤ 9223372036854775807
  · rw [if_pos c6] at H
    have c6b0 := eq_true c6
    have c6b1 : decide (t193.size + a0.size ≤ 9223372036854775807) = true := decide_eq_true c6
    try have c6b2 : (9223372036854775807 < t193.size + a0.size) = False := eq_false (Nat.not_lt.2 c6)
    obtain rfl := Option.some.inj H
    go_enter Tryd.func21, Tryd.ntmps21
    go_wp2_with (first | ((with_reducible refine gate_callee (f := 51) rfl ?_); refine goesL_ (some 11) rfl rfl Tryd.func51 (by kernel_rfl) rfl #[.string a0, .int .i64 a1, .string a2] rfl (by (try simp only [List.map_toArray, List.map_cons, List.map_nil]); first | done | rfl | (simp only [List.length_drop, List.length_take]; rfl)) ?_; (with_reducible refine (spec_missing.calls a0 a1 a2 t192 _ A4.out).mono ?_); rintro e w7 ⟨rfl, hb⟩; refine ⟨_, rfl, ?_⟩; have n0_ := Aside0.mk (below_step (by repeat (first | (with_reducible first | exact HB.out | apply below_alloc | apply pw_below_drewN | apply below_drew1) | exact HB.out)) hb); clear HB; have HB := n0_; clear n0_; (try clear hb); (try clear hb2); (try clear hk); (try clear hi)) | ((with_reducible refine gate_callee (f := 50) rfl ?_); refine goesL_ (some 12) rfl rfl Tryd.func50 (by kernel_rfl) rfl #[.string a2, .int .i64 t192] rfl (by (try simp only [List.map_toArray, List.map_cons, List.map_nil]); first | done | rfl | (simp only [List.length_drop, List.length_take]; rfl)) ?_; (with_reducible refine (spec_Padded.calls k a2 t192 t193 _ A5.out).mono ?_); rintro e w8 ⟨rfl, hb⟩; refine ⟨_, rfl, ?_⟩; have n0_ := Aside0.mk (below_step (by repeat (first | (with_reducible first | exact HB.out | apply below_alloc | apply pw_below_drewN | apply below_drew1) | exact HB.out)) hb); clear HB; have HB := n0_; clear n0_; (try clear hb); (try clear hb2); (try clear hk); (try clear hi)))
    go_ret
    exact ⟨by first | rfl | (simp [errW_none, errW_some] <;> rfl) | (simp [*, errW_none, errW_some] <;> rfl), by repeat (first | (with_reducible first | exact HB.out | apply below_alloc | apply pw_below_drewN | apply below_drew1) | exact HB.out)⟩
  · rw [if_neg c6] at H
    exact absurd H (by simp)

end Go.Proofs.YtbcccmoddbmffaaDoor.P
