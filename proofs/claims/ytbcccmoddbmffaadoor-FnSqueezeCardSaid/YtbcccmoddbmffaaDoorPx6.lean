-- WRITTEN by xprint.py (a program of this session, over the kit's print) out of the translation. Not trusted: Lean checks it.
import Derived.Test.YtbcccmoddbmffaaDoorPx0
namespace Go.Proofs.YtbcccmoddbmffaaDoor.P
open Go.RowKit Go.Proofs.YtbcccmoddbmffaaDoorW.PrintWords Go.Proofs.YtbcccmoddbmffaaDoorW.PrintLast Go.Proofs.YtbcccmoddbmffaaDoorW.PrintMore
attribute [local go_sem] max2_int min2_int max_two min_two max_three min_three max_four min_four   -- for this text's walks alone
set_option linter.unusedVariables false
set_option linter.unusedSimpArgs false

-- GIVEN by hand: function 71 (strings_Builder_WriteString)
/-! ### strings_Builder_WriteString: function 71 -/
/-- Block b is a builder (nothing of it is elder than block B) that holds the bytes l. -/
def BF (B b : Nat) (l : List UInt8) (w : World) : Prop := Lib.IsBuilderF 64 5 B b (Lib.byteCells l) w
theorem ownsRowF_below {w w' : World} {base : Nat} {e : TypeId} {size : Nat} {v : Value} {n : Nat} {xs : List Value} (h : w.ownsRowF base e size v n xs) (hb : Below w.heap.size w w') : w'.ownsRowF base e size v n xs := by
  obtain ⟨h1, h2 | ⟨g, cap, cur, fz, hv, hg, hc, h3⟩⟩ := h
  · exact ⟨h1, Or.inl h2⟩
  · exact ⟨h1, Or.inr ⟨g, cap, cur, fz, hv, hg, (hb.block g (lt_of_block hc)).trans hc, h3⟩⟩
theorem BF.below {B b : Nat} {l : List UInt8} {w w' : World} (h : BF B b l w) (hb : Below w.heap.size w w') : BF B b l w' := by
  rcases h with ⟨h1, v, h2, h3, h4⟩ | ⟨h1, v, h2, h3, h4⟩
  · exact Or.inl ⟨h1, v, (hb.block b (lt_of_block h2)).trans h2, ownsRowF_below h3 hb, h4⟩
  · exact Or.inr ⟨h1, v, (hb.block b (lt_of_block h2)).trans h2, ownsRowF_below h3 hb, h4⟩
theorem BF.of {B b : Nat} {l : List UInt8} {w : World} (h : Lib.IsBuilder 64 5 B b (Lib.byteCells l) w) : BF B b l w := Lib.IsBuilderF.of h
theorem BF.lt {B b : Nat} {l : List UInt8} {w : World} (h : BF B b l w) : b < w.heap.size := by
  rcases h with ⟨h1, v, h2, _⟩ | ⟨h1, v, h2, _⟩ <;> exact lt_of_block h2
theorem BF.base {B b : Nat} {l : List UInt8} {w : World} (h : BF B b l w) : B ≤ b := by
  rcases h with ⟨h1, _⟩ | ⟨h1, _⟩ <;> exact h1
/-- A builder that has just been made. -/
theorem BF.fresh {B b : Nat} {w : World} (hB : B ≤ b) (hb : w.heap[b]? = some (.cells #[.pointer none, .slice none 0 0] 64 (0, 0))) : BF B b [] w :=
  Or.inl ⟨hB, .slice none 0 0, hb, ⟨rfl, Or.inl ⟨rfl, rfl⟩⟩, by simp [Value.ownBlock]⟩
theorem Builder_WriteString.bld (B b : Nat) (l : List UInt8) (s : ByteArray) (w : World) (h : BF B b l w) (hlen : l.length + s.size ≤ 140737488355328) (hBw : B ≤ w.heap.size) :
    Calls Tryd.prog 71 #[.pointer (some ⟨b, 0, none⟩), .string s] w fun e w' => e = .returned (.tuple #[.int .i64 s.size, .nilIface]) ∧ BF B b (l ++ s.data.toList) w' ∧ Below B w w' := by
  refine (Tryd.Builder_WriteString_k B b (Lib.byteCells l) s w h (by rw [Lib.byteCells_length]; exact hlen) hBw).mono ?_
  rintro e w' ⟨rfl, h1, h2, _⟩
  refine ⟨rfl, ?_, h2⟩
  rw [Lib.strCells_eq, ← Lib.byteCells_append] at h1
  exact Or.inr h1

end Go.Proofs.YtbcccmoddbmffaaDoor.P
