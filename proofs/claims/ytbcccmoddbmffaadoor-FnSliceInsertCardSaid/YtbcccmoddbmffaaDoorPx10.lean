-- WRITTEN by xprint.py (a program of this session, over the kit's print) out of the translation. Not trusted: Lean checks it.
import Derived.Test.YtbcccmoddbmffaaDoorPx0
import Derived.Test.YtbcccmoddbmffaaDoorPx3
import Derived.Test.YtbcccmoddbmffaaDoorPx9
namespace Go.Proofs.YtbcccmoddbmffaaDoor.P
open Go.RowKit Go.Proofs.YtbcccmoddbmffaaDoorW.PrintWords Go.Proofs.YtbcccmoddbmffaaDoorW.PrintLast Go.Proofs.YtbcccmoddbmffaaDoorW.PrintMore
attribute [local go_sem] max2_int min2_int max_two min_two max_three min_three max_four min_four   -- for this text's walks alone
set_option linter.unusedVariables false
set_option linter.unusedSimpArgs false

-- GIVEN by hand: function 46 (xstrings_Insert)
/-! ### xstrings_Insert: function 46 -/
def insertF (d s : ByteArray) (i : Int) : Option ByteArray := (sliceF d 0 i).bind fun a => (sliceF d i (-1)).bind fun b => some (a ++ s ++ b)
def insertOk (d s : ByteArray) (i : Int) : Bool := decide (d.size ≤ 70368744177664) && decide (s.size ≤ 70368744177664) && decide (i ≤ 9223372036854775807)
def xstrings_Insert.f (a0 a1 : ByteArray) (a2 : Int) : Option ByteArray := if insertOk a0 a1 a2 = true then insertF a0 a1 a2 else none
theorem adv_le (s : ByteArray) : ∀ (n p : Nat), p ≤ s.size → (adv s p n).1 ≤ s.size
  | 0, p, h => by rw [adv_zero]; exact h
  | n + 1, p, h => by
    by_cases hp : p < s.size
    · rw [adv_step s p n hp]
      exact adv_le s n _ (width_le s p hp)
    · rw [adv_end s p _ hp]
      exact h
theorem sliceF_size {s : ByteArray} {a b : Int} {r : ByteArray} (h : sliceF s a b = some r) : r.size ≤ s.size := by
  unfold sliceF at h
  repeat' split at h
  all_goals first | cases h; done | (injection h with h; subst h; rw [ByteArray.size_extract]; exact Nat.le_trans (Nat.sub_le _ _) (Nat.min_le_right _ _))
set_option maxHeartbeats 800000 in
set_option maxRecDepth 100000 in
theorem xstrings_Insert.both (a0 a1 : ByteArray) (a2 : Int) (w : World) (hc : insertOk a0 a1 a2 = true) (HT0 : TabsU w) :
    Calls Tryd.prog 46 #[.string a0, .string a1, .int .i64 a2] w fun e w' => ((∃ r, insertF a0 a1 a2 = some r ∧ e = .returned (.string r)) ∨ (insertF a0 a1 a2 = none ∧ ∃ u pv, e = .panicked [{ v := .iface u pv, recovered := false }])) ∧ Below w.heap.size w w' := by
  simp only [insertOk, Bool.and_eq_true, decide_eq_true_eq] at hc
  obtain ⟨⟨hs, hs1⟩, hi⟩ := hc
  have HT := Lib.hid HT0
  clear HT0
  have k0 : sliceOk a0 0 = true := by simp [sliceOk, hs]
  have k1 : sliceOk a0 a2 = true := by simp [sliceOk, hs, hi]
  have f0 : xstrings_Slice.f a0 0 a2 = sliceF a0 0 a2 := by unfold xstrings_Slice.f; rw [if_pos k0]
  have f1 : xstrings_Slice.f a0 a2 (-1) = sliceF a0 a2 (-1) := by unfold xstrings_Slice.f; rw [if_pos k1]
  cases h1 : sliceF a0 0 a2 with
  | none =>
    have C1 := Lib.hid (fun w1 (T : TabsU w1) => xstrings_Slice.panics a0 0 a2 w1 ⟨k0, by rw [h1]; rfl⟩ T)
    have hI : insertF a0 a1 a2 = none := by unfold insertF; rw [h1]; rfl
    rw [hI]
    clear hI h1 f0 f1 k0 k1
    go_enter Tryd.func46, Tryd.ntmps46
    go_wp2_with fail
    refine (C1.out _ HT.out).mono ?_
    rintro e w1 ⟨⟨u, pv, rfl⟩, hb⟩
    exact And.intro rfl (And.intro (Or.inr ⟨trivial, _, _, rfl⟩) hb)
  | some r =>
    have C1 := Lib.hid (fun w1 (T : TabsU w1) => xstrings_Slice.calls a0 0 a2 r w1 (f0.trans h1) T)
    have hz := sliceF_size h1
    cases h2 : sliceF a0 a2 (-1) with
    | none =>
      have C2 := Lib.hid (fun w1 (T : TabsU w1) => xstrings_Slice.panics a0 a2 (-1) w1 ⟨k1, by rw [h2]; rfl⟩ T)
      have hI : insertF a0 a1 a2 = none := by unfold insertF; rw [h1, h2]; rfl
      rw [hI]
      clear hI h1 h2 f0 f1 k0 k1
      have hl : r.size + a1.size ≤ 9223372036854775807 := by omega
      go_enter Tryd.func46, Tryd.ntmps46
      go_wp2_with fail
      refine (C1.out _ HT.out).mono ?_
      rintro e w1 ⟨rfl, hb⟩
      have hb' := Lib.hid hb
      have HT1 := Lib.hid (TabsU.below HT.out hb)
      clear hb
      go_wp2_with fail
      all_goals (
        refine (C2.out _ (by first | exact HT1.out | exact TabsU.below HT1.out (by repeat (first | exact Below.refl _ _ | apply pw_below_drewN | apply below_drew1)))).mono ?_
        rintro e w2 ⟨⟨u, pv, rfl⟩, hb2⟩
        exact And.intro rfl (And.intro (Or.inr ⟨trivial, _, _, rfl⟩) (below_step hb'.out hb2)))
    | some r2 =>
      have C2 := Lib.hid (fun w1 (T : TabsU w1) => xstrings_Slice.calls a0 a2 (-1) r2 w1 (f1.trans h2) T)
      have hz2 := sliceF_size h2
      have hI : insertF a0 a1 a2 = some (r ++ a1 ++ r2) := by unfold insertF; rw [h1, h2]; rfl
      rw [hI]
      clear hI h1 h2 f0 f1 k0 k1
      have hl : r.size + a1.size ≤ 9223372036854775807 := by omega
      have hl2 : (r ++ a1).size + r2.size ≤ 9223372036854775807 := by rw [ByteArray.size_append]; omega
      go_enter Tryd.func46, Tryd.ntmps46
      go_wp2_with fail
      refine (C1.out _ HT.out).mono ?_
      rintro e w1 ⟨rfl, hb⟩
      have hb' := Lib.hid hb
      have HT1 := Lib.hid (TabsU.below HT.out hb)
      clear hb
      go_wp2_with fail
      refine (C2.out _ HT1.out).mono ?_
      rintro e w2 ⟨rfl, hb2⟩
      have hB := Lib.hid (below_step hb'.out hb2)
      clear hb2
      go_wp2
      go_ret
      exact ⟨Or.inl ⟨_, rfl, rfl⟩, hB.out⟩
theorem xstrings_Insert.calls (a0 a1 : ByteArray) (a2 : Int) (r : ByteArray) (w : World) (h : xstrings_Insert.f a0 a1 a2 = some r) (HT : TabsU w) :
    Calls Tryd.prog 46 #[.string a0, .string a1, .int .i64 a2] w fun e w' => e = .returned (.string r) ∧ Below w.heap.size w w' := by
  unfold xstrings_Insert.f at h
  split at h
  · rename_i hc
    refine (xstrings_Insert.both a0 a1 a2 w hc HT).mono ?_
    rintro e w' ⟨⟨r', hr, rfl⟩ | ⟨hr, _⟩, hb⟩
    · rw [hr] at h
      injection h with h
      subst h
      exact ⟨rfl, hb⟩
    · rw [hr] at h
      cases h
  · cases h
theorem xstrings_Insert.panics (a0 a1 : ByteArray) (a2 : Int) (w : World) (h : insertOk a0 a1 a2 = true ∧ (insertF a0 a1 a2).isNone = true) (HT : TabsU w) :
    Calls Tryd.prog 46 #[.string a0, .string a1, .int .i64 a2] w fun e w' => (∃ u pv, e = .panicked [{ v := .iface u pv, recovered := false }]) ∧ Below w.heap.size w w' := by
  refine (xstrings_Insert.both a0 a1 a2 w h.1 HT).mono ?_
  rintro e w' ⟨⟨r', hr, rfl⟩ | ⟨_, hp⟩, hb⟩
  · rw [hr] at h
    cases h.2
  · exact ⟨hp, hb⟩

end Go.Proofs.YtbcccmoddbmffaaDoor.P
