-- WRITTEN by xprint.py (a program of this session, over the kit's print) out of the translation. Not trusted: Lean checks it.
import Derived.Test.YtbcccmoddbmffaaDoorPx0
import Derived.Test.YtbcccmoddbmffaaDoorPx6
import Derived.Test.YtbcccmoddbmffaaDoorPx10
namespace Go.Proofs.YtbcccmoddbmffaaDoor.P
open Go.RowKit Go.Proofs.YtbcccmoddbmffaaDoorW.PrintWords Go.Proofs.YtbcccmoddbmffaaDoorW.PrintLast Go.Proofs.YtbcccmoddbmffaaDoorW.PrintMore
attribute [local go_sem] max2_int min2_int max_two min_two max_three min_three max_four min_four   -- for this text's walks alone
set_option linter.unusedVariables false
set_option linter.unusedSimpArgs false

-- GIVEN by hand: function 74 (xstrings_allocBuffer)
/-! ### xstrings_allocBuffer: function 74 -/
set_option maxHeartbeats 800000 in
set_option maxRecDepth 100000 in
theorem allocBuffer.bld (B : Nat) (s t : ByteArray) (w : World) (hs : s.size ≤ 70368744177664) (ht : t.size ≤ s.size) (hB : B ≤ w.heap.size) :
    Calls Tryd.prog 74 #[.string s, .string t] w fun e w' => (∃ b, e = .returned (.pointer (some ⟨b, 0, none⟩)) ∧ BF B b (s.data.toList.take (s.size - t.size)) w') ∧ Below B w w' := by
  have k1 : ((s.size : Int) - (t.size : Int)) = ((s.size - t.size : Nat) : Int) := by omega
  obtain ⟨d, hd⟩ : ∃ d, d = s.size - t.size := ⟨_, rfl⟩
  have hx : (s.extract 0 d).data.toList = s.data.toList.take (s.size - t.size) := by rw [extract_list, List.drop_zero, Nat.sub_zero, hd]
  have hx1 := Lib.hid hx
  have k2 : (s.size : Int) - (t.size : Int) = (d : Int) := by rw [k1, hd]
  have k3 : d ≤ s.size := by omega
  have k4 := Lib.hid (show ([] : List UInt8).length + (s.extract 0 d).size ≤ 140737488355328 by rw [ByteArray.size_extract]; simp; omega)
  have k5 := Lib.hid hB
  clear hx k1 hd hB
  by_cases c : (s.size : Int) * 4 > 2048
  · go_enter Tryd.func74, Tryd.ntmps74
    go_wp2_with fail
    refine (Builder_Grow.bld B _ 2048 _ k5.out (heap_alloc_new _ _) (Nat.le_trans k5.out (by simp)) (by omega)).mono ?_
    rintro e w3 ⟨rfl, hf, hb⟩
    have F := Lib.hid hf
    have BB := Lib.hid (((Below.refl B w).alloc k5.out _).trans hb)
    have SS := Lib.hid (Nat.le_trans k5.out BB.out.size)
    clear hf hb
    go_wp2_with fail
    refine (Builder_WriteString.bld B _ _ _ _ F.out k4.out SS.out).mono ?_
    rintro e w4 ⟨rfl, hf, hb⟩
    have F' := Lib.hid hf
    have BB' := Lib.hid (BB.out.trans hb)
    clear hf hb
    go_wp2
    go_ret
    exact ⟨⟨_, rfl, by have := F'.out; rw [hx1.out] at this; exact this⟩, BB'.out⟩
  · obtain ⟨G, hG⟩ : ∃ G : Nat, G = s.size * 4 := ⟨_, rfl⟩
    have hG2 : (s.size : Int) * 4 = (G : Int) := by omega
    have hG3 : G ≤ 281474976710656 := by omega
    clear hG
    go_enter Tryd.func74, Tryd.ntmps74
    go_wp2_with fail
    refine (Builder_Grow.bld B _ G _ k5.out (heap_alloc_new _ _) (Nat.le_trans k5.out (by simp)) hG3).mono ?_
    rintro e w3 ⟨rfl, hf, hb⟩
    have F := Lib.hid hf
    have BB := Lib.hid (((Below.refl B w).alloc k5.out _).trans hb)
    have SS := Lib.hid (Nat.le_trans k5.out BB.out.size)
    clear hf hb
    go_wp2_with fail
    refine (Builder_WriteString.bld B _ _ _ _ F.out k4.out SS.out).mono ?_
    rintro e w4 ⟨rfl, hf, hb⟩
    have F' := Lib.hid hf
    have BB' := Lib.hid (BB.out.trans hb)
    clear hf hb
    go_wp2
    go_ret
    exact ⟨⟨_, rfl, by have := F'.out; rw [hx1.out] at this; exact this⟩, BB'.out⟩

end Go.Proofs.YtbcccmoddbmffaaDoor.P
