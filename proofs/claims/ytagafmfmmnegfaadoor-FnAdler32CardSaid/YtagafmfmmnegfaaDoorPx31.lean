-- WRITTEN by xprint.py (a program of this session, over the kit's print) out of the translation. Not trusted: Lean checks it.
import Derived.Test.YtagafmfmmnegfaaDoorPx0
import Derived.Test.YtagafmfmmnegfaaDoorPx30
namespace Go.Proofs.YtagafmfmmnegfaaDoor.P
open Go.RowKit Go.Proofs.YtagafmfmmnegfaaDoorW.PrintWords Go.Proofs.YtagafmfmmnegfaaDoorW.PrintLast Go.Proofs.YtagafmfmmnegfaaDoorW.PrintMore
attribute [local go_sem] max2_int min2_int max_two min_two max_three min_three max_four min_four   -- for this text's walks alone
set_option linter.unusedVariables false
set_option linter.unusedSimpArgs false

/-! ### strconv_FormatUint_96: function 96 -/
def strconv_FormatUint_96.f (a0 : Int) (a1 : Int) : Option (ByteArray) := (strconv_FormatUint_115.f a0 a1).bind fun t143 => (some t143)
set_option maxHeartbeats 8000000 in
set_option maxRecDepth 100000 in
theorem strconv_FormatUint_96.calls (a0 : Int) (a1 : Int) (r : ByteArray) (w : World) (h : strconv_FormatUint_96.f a0 a1 = some r) (HT0W : TabsW w) :
    Calls Tryd.prog 96 #[.int .u64 a0, .int .i64 a1] w fun e w' => e = .returned (.string r) ∧ Below w.heap.size w w' := by
  have HTW := Aside0.mk HT0W
  clear HT0W
  have HB := Aside0.mk (Below.refl w.heap.size w)
  have H : ((strconv_FormatUint_115.f a0 a1).bind fun t143 => (some t143)) = some r := h
  clear h
  replace H := Option.bind_eq_some_iff.mp H
  obtain ⟨t143, A30, H⟩ := H
  replace H : (some t143) = some r := H
  have A3 := Aside0.mk A30
  clear A30
  obtain rfl := Option.some.inj H
  go_enter Tryd.func96, Tryd.ntmps96
  go_wp2_with (first | ((with_reducible refine gate_callee (f := 115) rfl ?_); refine goesL_ (some 7) rfl rfl Tryd.func115 (by kernel_rfl) rfl #[.int .u64 a0, .int .i64 a1] rfl (by (try simp only [List.map_toArray, List.map_cons, List.map_nil]); first | done | rfl | (simp only [List.length_drop, List.length_take]; rfl)) ?_; (with_reducible refine (strconv_FormatUint_115.calls a0 a1 t143 _ A3.out (TabsW.below HTW.out (by repeat (first | (with_reducible first | exact HB.out | apply below_alloc | apply pw_below_drewN | apply below_drew1) | exact HB.out)))).mono ?_); rintro e w4 ⟨rfl, hb⟩; refine ⟨_, rfl, ?_⟩; have n0_ := Aside0.mk (below_step (by repeat (first | (with_reducible first | exact HB.out | apply below_alloc | apply pw_below_drewN | apply below_drew1) | exact HB.out)) hb); clear HB; have HB := n0_; clear n0_; (try clear hb); (try clear hb2); (try clear hk); (try clear hi)))
  go_ret
  exact ⟨by first | rfl | (simp [errW_none, errW_some] <;> rfl) | (simp [*, errW_none, errW_some] <;> rfl), by repeat (first | (with_reducible first | exact HB.out | apply below_alloc | apply pw_below_drewN | apply below_drew1) | exact HB.out)⟩

end Go.Proofs.YtagafmfmmnegfaaDoor.P
