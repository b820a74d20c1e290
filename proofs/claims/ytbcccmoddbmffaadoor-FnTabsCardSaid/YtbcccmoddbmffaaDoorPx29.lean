-- WRITTEN by xprint.py (a program of this session, over the kit's print) out of the translation. Not trusted: Lean checks it.
import Derived.Test.YtbcccmoddbmffaaDoorPx0
import Derived.Test.YtbcccmoddbmffaaDoorPx24
namespace Go.Proofs.YtbcccmoddbmffaaDoor.P
open Go.RowKit Go.Proofs.YtbcccmoddbmffaaDoorW.PrintWords Go.Proofs.YtbcccmoddbmffaaDoorW.PrintLast Go.Proofs.YtbcccmoddbmffaaDoorW.PrintMore
attribute [local go_sem] max2_int min2_int max_two min_two max_three min_three max_four min_four   -- for this text's walks alone
set_option linter.unusedVariables false
set_option linter.unusedSimpArgs false

-- GIVEN by hand: function 23 (spec_Center)
/-! ### spec_Center: function 23 -/
def spec_Center.f (k : Nat) (a0 : ByteArray) (a1 : Int) (a2 : ByteArray) : Option ByteArray :=
  (spec_missing.f a0 a1 a2).bind fun m => if 0 ≤ m ∧ m ≤ 1000000 then (spec_Padded.f k a2 (m / 2)).bind fun p => (spec_Padded.f k a2 (m - m / 2)).bind fun q => if p.size + a0.size ≤ 4000000000000000000 ∧ (p ++ a0).size + q.size ≤ 4000000000000000000 then some ((p ++ a0) ++ q) else none else none
theorem spec_Center.mono : ∀ a0 a1 a2 k, LeO (spec_Center.f k a0 a1 a2) (spec_Center.f (k + 1) a0 a1 a2) := by
  intro a0 a1 a2 k
  unfold spec_Center.f
  repeat' first
      | (with_reducible exact spec_Padded.mono _ _ _)
      | (with_reducible exact LeO.refl _)
      | (with_reducible refine LeO.ite ?_ ?_)
      | (with_reducible refine LeO.bind ?_ (fun _ => ?_))
set_option maxRecDepth 100000 in
theorem spec_Center.calls (k : Nat) (a0 : ByteArray) (a1 : Int) (a2 : ByteArray) (r : ByteArray) (w : World) (h : spec_Center.f k a0 a1 a2 = some r) :
    Calls Tryd.prog 23 #[.string a0, .int .i64 a1, .string a2] w fun e w' => e = .returned (.string r) ∧ Below w.heap.size w w' := by
  unfold spec_Center.f at h
  obtain ⟨m, hm, h⟩ := Option.bind_eq_some_iff.1 h
  split at h
  · rename_i hc
    obtain ⟨c0, c1⟩ := hc
    obtain ⟨p, hp, h⟩ := Option.bind_eq_some_iff.1 h
    obtain ⟨q, hq, h⟩ := Option.bind_eq_some_iff.1 h
    split at h
    · rename_i hz
      obtain ⟨z1, z2⟩ := hz
      injection h with hr
      subst hr
      have Hm := Lib.hid hm
      have Hp := Lib.hid hp
      have Hq := Lib.hid hq
      have y1 : p.size + a0.size ≤ 9223372036854775807 := by omega
      have y2 : (p ++ a0).size + q.size ≤ 9223372036854775807 := by omega
      clear hm hp hq z1 z2
      go_enter Tryd.func23, Tryd.ntmps23
      go_wp2_with fail
      refine (spec_missing.calls _ _ _ _ _ Hm.out).mono ?_
      rintro e w1 ⟨rfl, hb⟩
      have HB := Lib.hid hb
      clear hb
      go_wp2_with fail
      refine (spec_Padded.calls k _ _ _ _ Hp.out).mono ?_
      rintro e w2 ⟨rfl, hb⟩
      have HB2 := Lib.hid (below_step HB.out hb)
      clear hb HB
      go_wp2_with fail
      refine (spec_Padded.calls k _ _ _ _ Hq.out).mono ?_
      rintro e w3 ⟨rfl, hb⟩
      have HB3 := Lib.hid (below_step HB2.out hb)
      clear hb HB2
      go_wp2
      go_ret
      exact ⟨rfl, HB3.out⟩
    · cases h
  · cases h

end Go.Proofs.YtbcccmoddbmffaaDoor.P
