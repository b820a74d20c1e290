-- WRITTEN by xprint.py (a program of this session, over the kit's print) out of the translation. Not trusted: Lean checks it.
import Derived.Test.YtbjoipclkapcjaaGreatDoorPx0
import Derived.Test.YtbjoipclkapcjaaGreatDoorPx5
namespace Go.Proofs.YtbjoipclkapcjaaGreatDoor.P
open Go.RowKit Go.Proofs.YtbjoipclkapcjaaGreatDoorW.PrintWords Go.Proofs.YtbjoipclkapcjaaGreatDoorW.PrintLast Go.Proofs.YtbjoipclkapcjaaGreatDoorW.PrintMore
attribute [local go_sem] max2_int min2_int max_two min_two max_three min_three max_four min_four run_store_float   -- for this text's walks alone
set_option linter.unusedVariables false
set_option linter.unusedSimpArgs false

/-! ### spec_Decimal: function 4 -/
def spec_Decimal.f (a0 : Int) : Option (ByteArray) := (strconv_FormatInt_8.f a0 10).bind fun t103 => (some t103)
set_option maxHeartbeats 8000000 in
set_option maxRecDepth 100000 in
theorem spec_Decimal.calls (a0 : Int) (r : ByteArray) (w : World) (h : spec_Decimal.f a0 = some r) (HT0W : TabsW w) :
    Calls Tryz.prog 4 #[.int .i64 a0] w fun e w' => e = .returned (.string r) ∧ Below w.heap.size w w' := by
  have HTW := Aside0.mk HT0W
  clear HT0W
  have HB := Aside0.mk (Below.refl w.heap.size w)
  have H : ((strconv_FormatInt_8.f a0 10).bind fun t103 => (some t103)) = some r := h
  clear h
  replace H := Option.bind_eq_some_iff.mp H
  obtain ⟨t103, A20, H⟩ := H
  replace H : (some t103) = some r := H
  have A2 := Aside0.mk A20
  clear A20
  as_aux_lemma =>
    obtain rfl := Option.some.inj H
    go_enter Tryz.func4, Tryz.ntmps4
    go_wp2_with (first | ((with_reducible refine gate_callee (f := 8) rfl ?_); refine goesL_ (some 4) rfl rfl Tryz.func8 (by kernel_rfl) rfl #[.int .i64 a0, .int .i64 10] rfl (by (try simp only [List.map_toArray, List.map_cons, List.map_nil]); first | done | rfl | (simp only [List.length_drop, List.length_take]; rfl)) ?_; (with_reducible refine (strconv_FormatInt_8.calls a0 10 t103 _ A2.out (TabsW.below HTW.out (by repeat (first | (with_reducible first | exact HB.out | apply below_alloc | apply pw_below_drewN | apply below_drew1) | exact HB.out)))).mono ?_); rintro e w3 ⟨rfl, hb⟩; refine ⟨_, rfl, ?_⟩; have n0_ := Aside0.mk (below_step (by repeat (first | (with_reducible first | exact HB.out | apply below_alloc | apply pw_below_drewN | apply below_drew1) | exact HB.out)) hb); clear HB; have HB := n0_; clear n0_; (try clear hb); (try clear hb2); (try clear hk); (try clear hi)))
    go_ret
    exact ⟨by first | rfl | (simp [errW_none, errW_some] <;> rfl) | (simp [*, errW_none, errW_some] <;> rfl), by repeat (first | (with_reducible first | exact HB.out | apply below_alloc | apply pw_below_drewN | apply below_drew1) | exact HB.out)⟩

-- NOT PRINTED: function 14 (impl_goList)

-- NOT PRINTED: function 15 (impl_goDict)

-- NOT PRINTED: function 9 (impl_goOf)

-- NOT PRINTED: function 42 (cast_toNumber_int)

end Go.Proofs.YtbjoipclkapcjaaGreatDoor.P
