-- WRITTEN by xprint.py (a program of this session, over the kit's print) out of the translation. Not trusted: Lean checks it.
import Derived.Test.YtmdehalchdgoeaaPx0
import Derived.Test.YtmdehalchdgoeaaPx5
namespace Go.Proofs.Ytmdehalchdgoeaa.P
open Go.RowKit Go.Proofs.YtmdehalchdgoeaaW.PrintWords Go.Proofs.YtmdehalchdgoeaaW.PrintLast Go.Proofs.YtmdehalchdgoeaaW.PrintMore
attribute [local go_sem] max2_int min2_int max_two min_two max_three min_three max_four min_four   -- for this text's walks alone
set_option linter.unusedVariables false
set_option linter.unusedSimpArgs false

-- GIVEN by hand: function 11 (impl_Abbreviated)
/-! ### impl_Abbreviated: function 11 -/
def impl_Abbreviated.f (a0 : ByteArray) (a1 a2 : Int) : Option (ByteArray × Bool) := if near a0 a1 a2 then (match abF a0 a1 a2 with | some r => some (r, true) | none => some (ByteArray.empty, false)) else none
set_option maxRecDepth 100000 in
theorem impl_Abbreviated.calls (a0 : ByteArray) (a1 a2 : Int) (r1 : ByteArray) (r2 : Bool) (w : World) (h : impl_Abbreviated.f a0 a1 a2 = some (r1, r2)) :
    Calls Try.prog 11 #[.string a0, .int .i64 a1, .int .i64 a2] w fun e w' => e = .returned (.tuple #[.string r1, .bool r2]) ∧ Below w.heap.size w w' := by
  unfold impl_Abbreviated.f at h
  by_cases hn : near a0 a1 a2
  · rw [if_pos hn] at h
    obtain ⟨hs, ho, ho', hm⟩ := hn
    cases ha : abF a0 a1 a2 with
    | none =>
      rw [ha] at h
      cases h
      have C := Lib.hid (fun w => abf_none a0 a1 a2 w hs ho ho' hm ha)
      clear ha
      go_enter Try.func11, Try.ntmps11
      go_wp2_with fail
      refine (C.out _).mono ?_
      rintro e w' ⟨⟨x, rfl⟩, hb⟩
      have HB := Lib.hid hb
      clear hb
      go_wp2
      go_region
      all_goals (go_wp2; go_ret2; exact ⟨rfl, HB.out.drew⟩)
    | some r =>
      rw [ha] at h
      cases h
      have C := Lib.hid (fun w => abf_some a0 a1 a2 r1 w hs ho ho' hm ha)
      clear ha
      go_enter Try.func11, Try.ntmps11
      go_wp2_with fail
      refine (C.out _).mono ?_
      rintro e w' ⟨rfl, hb⟩
      have HB := Lib.hid hb
      clear hb
      go_wp2
      go_region
      all_goals (go_wp2; go_ret2; exact ⟨rfl, HB.out.drew⟩)
  · rw [if_neg hn] at h
    cases h

end Go.Proofs.Ytmdehalchdgoeaa.P
