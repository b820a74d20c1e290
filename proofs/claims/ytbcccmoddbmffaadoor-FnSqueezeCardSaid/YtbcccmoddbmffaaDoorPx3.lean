-- WRITTEN by xprint.py (a program of this session, over the kit's print) out of the translation. Not trusted: Lean checks it.
import Derived.Test.YtbcccmoddbmffaaDoorPx0
namespace Go.Proofs.YtbcccmoddbmffaaDoor.P
open Go.RowKit Go.Proofs.YtbcccmoddbmffaaDoorW.PrintWords Go.Proofs.YtbcccmoddbmffaaDoorW.PrintLast Go.Proofs.YtbcccmoddbmffaaDoorW.PrintMore
attribute [local go_sem] max2_int min2_int max_two min_two max_three min_three max_four min_four   -- for this text's walks alone
set_option linter.unusedVariables false
set_option linter.unusedSimpArgs false

-- GIVEN by hand: function 66 (utf8_DecodeRuneInString)
/-! ### utf8_DecodeRuneInString: function 66 -/
/-- The two tables of unicode/utf8 lie in memory as their initialisers laid them. -/
def TabsU (w : World) : Prop := Lib.Utf8Tabs 0 1 w
theorem TabsU.below {w w' : World} (h : TabsU w) (hb : Below w.heap.size w w') : TabsU w' := Utf8Tabs_below h hb
def utf8_DecodeRuneInString.f (a0 : ByteArray) : Option (Int × Int) := some (((Lib.decodeGo a0).1 : Int), ((Lib.decodeGo a0).2 : Int))
theorem utf8_DecodeRuneInString.calls (a0 : ByteArray) (r1 r2 : Int) (w : World) (h : utf8_DecodeRuneInString.f a0 = some (r1, r2)) (HT : TabsU w) :
    Calls Tryd.prog 66 #[.string a0] w fun e w' => e = .returned (.tuple #[.int .i32 r1, .int .i64 r2]) ∧ Below w.heap.size w w' := by
  unfold utf8_DecodeRuneInString.f at h
  simp only [Option.some.injEq, Prod.mk.injEq] at h
  obtain ⟨rfl, rfl⟩ := h
  exact Tryd.utf8_DecodeRuneInString a0 w HT
theorem decodeGo_at (s : ByteArray) (p : Nat) (h : p < s.size) : Lib.decodeGo (s.extract p s.size) = Utf8.decode s p := by
  unfold Lib.decodeGo
  rw [if_neg (by rw [ByteArray.size_extract]; omega), Lib.tail_decode]
  rfl
theorem width_le (s : ByteArray) (p : Nat) (h : p < s.size) : p + (Utf8.decode s p).2 ≤ s.size := by
  have := Lib.decodeGo_le_size (s.extract p s.size)
  rw [decodeGo_at s p h, ByteArray.size_extract] at this
  omega
theorem extract_tail (s : ByteArray) (p q : Nat) (h : p + q ≤ s.size) : (s.extract p s.size).extract q (s.extract p s.size).size = s.extract (p + q) s.size := by
  rw [ByteArray.extract_extract]
  congr 1
  rw [ByteArray.size_extract]
  omega
theorem extract_whole (s : ByteArray) : s.extract 0 s.size = s := by
  apply ba_ext
  rw [extract_list, List.drop_zero, Nat.sub_zero, ← size_list, List.take_length]
/-- From place p on by n characters: the place, and how many were lacking. -/
def adv (s : ByteArray) : Nat → Nat → Nat × Nat
  | p, 0 => (p, 0)
  | p, n + 1 => if p < s.size then adv s (p + (Utf8.decode s p).2) n else (p, n + 1)
termination_by _ n => n
theorem adv_step (s : ByteArray) (p n : Nat) (h : p < s.size) : adv s p (n + 1) = adv s (p + (Utf8.decode s p).2) n := by
  rw [adv, if_pos h]
theorem adv_end (s : ByteArray) (p n : Nat) (h : ¬ p < s.size) : adv s p n = (p, n) := by
  cases n with
  | zero => rw [adv]
  | succ n => rw [adv, if_neg h]
theorem adv_zero (s : ByteArray) (p : Nat) : adv s p 0 = (p, 0) := by rw [adv]
theorem adv_le (s : ByteArray) : ∀ (n p : Nat), p ≤ s.size → (adv s p n).1 ≤ s.size
  | 0, p, h => by rw [adv_zero]; exact h
  | n + 1, p, h => by
    by_cases hp : p < s.size
    · rw [adv_step s p n hp]
      exact adv_le s n _ (width_le s p hp)
    · rw [adv_end s p _ hp]
      exact h

end Go.Proofs.YtbcccmoddbmffaaDoor.P
