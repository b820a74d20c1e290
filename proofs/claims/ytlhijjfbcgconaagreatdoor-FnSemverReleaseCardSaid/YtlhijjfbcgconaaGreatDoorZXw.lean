/- Words of this session beside the print's: a string as its code points, laws for the two conversions, and small laws on rounds. Nothing is assumed. -/
import Derived.Test.YtlhijjfbcgconaaGreatDoorZWMore
import Derived.Test.YtlhijjfbcgconaaGreatDoorZWN
import Derived.Laws.IdiomStrings
import Derived.Laws.Cover4
import Derived.Laws.RangeAny
import Derived.Lib.Strings
import Derived.Lib.BufferMore
import Derived.Lib.ConvBytes
import Derived.WalkLawsBesides
import Derived.Maps.RangeWalk
import Derived.WalkKit
set_option linter.unusedVariables false
set_option linter.unusedSimpArgs false
namespace Go.Proofs.YtlhijjfbcgconaaGreatDoorW.PrintWords
open Go.RowKit

/-! ### Rounds -/
theorem Ev.pos {α : Type} {c : Prop} [Decidable c] {a b : Nat → Option α} {r : α} (h : c) (e : Ev a r) : Ev (fun k => if c then a k else b k) r := by
  obtain ⟨K, hK⟩ := e
  exact ⟨K, fun k hk => (if_pos h).trans (hK k hk)⟩
theorem Ev.neg {α : Type} {c : Prop} [Decidable c] {a b : Nat → Option α} {r : α} (h : ¬ c) (e : Ev b r) : Ev (fun k => if c then a k else b k) r := by
  obtain ⟨K, hK⟩ := e
  exact ⟨K, fun k hk => (if_neg h).trans (hK k hk)⟩
theorem Ev.ok {α : Type} (r : α) : Ev (fun _ => some r) r := ⟨0, fun _ _ => rfl⟩
theorem Ev.eq {α : Type} {g : Nat → Option α} {r r' : α} (h : r = r') (e : Ev g r) : Ev g r' := h ▸ e
theorem w64_in {i : Int} (h0 : -9223372036854775808 ≤ i) (h : i ≤ 9223372036854775807) : wrap64 i = i := by
  unfold wrap64
  omega
theorem toList_inj {a b : ByteArray} (h : a.toList = b.toList) : a = b := by
  have h' : a.data.toList = b.data.toList := by rw [← ByteArray.toList_eq, ← ByteArray.toList_eq]; exact h
  cases a; cases b; simp at h'; simp [h']

/-! ### Blocks laid one behind the other -/
def laidAll (w : World) : List Obj → World
  | [] => w
  | o :: os => laidAll (w.alloc o) os
/-! ### Bytes -/
theorem ba_ext {a b : ByteArray} (h : a.data.toList = b.data.toList) : a = b := by
  cases a; cases b; simp at h; simp [h]
theorem extract_list (s : ByteArray) (a b : Nat) : (s.extract a b).data.toList = (s.data.toList.drop a).take (b - a) := by
  rw [← ByteArray.toList_eq, Lib.extract_toList]
theorem append_list (a b : ByteArray) : (a ++ b).data.toList = a.data.toList ++ b.data.toList := by simp
theorem size_list (s : ByteArray) : s.data.toList.length = s.size := by simp

/-! ### The first place of a text in another one, by a loop -/
/-! ### What is left of a text by points -/
def near (s : ByteArray) (o m : Int) : Prop := s.size ≤ 500 ∧ -1000000 ≤ o ∧ o ≤ 1000000 ∧ m ≤ 1000000
instance (s : ByteArray) (o m : Int) : Decidable (near s o m) := by unfold near; exact inferInstance

/-! ### Code points -/
/-- A text of ASCII. -/
def ascii (s : ByteArray) : Prop := ∀ i : Nat, i < s.size → bt s i < 128
/-- A text's bytes as numbers. -/
def nums8 (s : ByteArray) : List Int := s.data.toList.map fun b => (b.toNat : Int)
theorem nums8_length (s : ByteArray) : (nums8 s).length = s.size := by simp [nums8]
theorem bt_nat (s : ByteArray) (i : Nat) (h : i < s.size) : bt s (i : Int) = ((s[i]'h).toNat : Int) := by
  unfold bt
  rw [dif_pos (by rw [Int.toNat_natCast]; exact h)]
  simp
theorem nums8_at (s : ByteArray) (i : Nat) (h : i < s.size) : (nums8 s)[i]'(by rw [nums8_length]; exact h) = bt s i := by
  rw [bt_nat s i h]
  simp [nums8]
  rfl
namespace Kd
section
variable {P : Program} {ops : Array Oper} {rest : List Oper} {o : Oper} {a : Act} {Q : Exit → Act → World → Prop}
end
end Kd

/-! ### 'string(runes)' -/
/-! ### A row of numbers that is the call's own, with cells that may be written ('[]byte(s)' lays such a one) -/
def NumRow (k : IntKind) (w : World) (b e : Nat) (xs : List Int) : Prop :=
  ∃ cur fz, w.heap[b]? = some (.cells cur e fz) ∧ xs.length ≤ cur.size ∧ (∀ j, j < cur.size → ¬ (fz.1 ≤ j ∧ j < fz.2)) ∧ ∀ j, j < xs.length → cur[j]? = some (.int k (xs.getD j 0))
theorem NumRow.cell {k : IntKind} {w : World} {b e : Nat} {xs : List Int} (h : NumRow k w b e xs) {j : Nat} (hj : j < xs.length) : w.cell? ⟨b, j, none⟩ = some (.int k (xs.getD j 0)) := by
  obtain ⟨cur, fz, h1, h2, h3, h4⟩ := h
  simp only [World.cell?, h1]
  exact h4 j hj
theorem NumRow.free {k : IntKind} {w : World} {b e : Nat} {xs : List Int} (h : NumRow k w b e xs) {j : Nat} (hj : j < xs.length) : w.frozen? ⟨b, j, none⟩ = false := by
  obtain ⟨cur, fz, h1, h2, h3, h4⟩ := h
  have := h3 j (by omega)
  simp only [World.frozen?, h1]
  simpa using this
theorem NumRow.set {k : IntKind} {w : World} {b e : Nat} {xs : List Int} (h : NumRow k w b e xs) {j : Nat} (hj : j < xs.length) (y : Int) : NumRow k (w.setCell ⟨b, j, none⟩ (.int k y)) b e (xs.set j y) := by
  obtain ⟨cur, fz, h1, h2, h3, h4⟩ := h
  refine ⟨cur.setIfInBounds j (.int k y), fz, Lib.heap_setCell_same h1 _, by rw [List.length_set, Array.size_setIfInBounds]; exact h2, by rw [Array.size_setIfInBounds]; exact h3, fun i hi => ?_⟩
  rw [List.length_set] at hi
  rw [Array.getElem?_setIfInBounds]
  by_cases hij : j = i
  · subst hij
    rw [if_pos rfl, if_pos (by omega)]
    simp [List.getD_eq_getElem?_getD, hj]
  · rw [if_neg hij, h4 i hi]
    simp [List.getD_eq_getElem?_getD, List.getElem?_set, hij]
theorem NumRow.below {k : IntKind} {w w1 : World} {b e B : Nat} {xs : List Int} (h : NumRow k w b e xs) (hb : Below B w w1) (hB : b < B) : NumRow k w1 b e xs := by
  obtain ⟨cur, fz, h1, h⟩ := h
  exact ⟨cur, fz, (hb.block b hB).trans h1, h⟩
theorem NumRow.string {P : Program} {w : World} {b e cap : Nat} {xs : List Int} (h : NumRow .u8 w b e xs) {src dst : TypeId} (hs : P.underlying src = some (.slice e)) (he : P.underlying e = some (.int .u8)) (hd : P.underlying dst = some .string)
    {n : Nat} (hn : n = xs.length) : (convert src dst (.slice (some ⟨b, 0, none⟩) n cap)).run P w = .ok (.string (strOfNums xs)) w := by
  subst hn
  exact run_convert_bytes_arg w src e hs he b 0 _ cap xs rfl (fun i hi => by rw [Nat.zero_add]; exact h.cell hi) dst hd
/-! ### Texts in order -/
theorem bytesLe_not : ∀ x y : List UInt8, (Op.bytesLess x y || x == y) = !Op.bytesLess y x
  | [], [] => rfl
  | [], _ :: _ => rfl
  | _ :: _, [] => rfl
  | a :: x, b :: y => by
    have ih := bytesLe_not x y
    unfold Op.bytesLess
    by_cases hab : a < b
    · have h1 : ¬ b < a := fun h => by rw [UInt8.lt_iff_toNat_lt] at *; omega
      have h2 : ¬ b = a := fun h => by subst h; exact h1 hab
      simp [hab, h1, h2]
    · by_cases hba : b < a
      · have h2 : ¬ a = b := fun h => by subst h; exact hab hba
        have h3 : ¬ b = a := fun h => h2 h.symm
        simp [hab, hba, h2]
      · have h2 : a = b := by
          apply UInt8.toNat_inj.1
          rw [UInt8.lt_iff_toNat_lt] at *
          omega
        subst h2
        simp [hab, ← ih]
theorem run_store_float {P : Program} {w : World} {a : Addr} {m : Mode} (k : FloatKind) (b : Nat) : (store a (.float k b) m).run P w = stored P w a (.float k b) m := run_store P w a _ m rfl
/-! ### x - x of a float: nought, or a NaN whose bits the tape tells -/
namespace Kd
/-! ### Floats that are only carried: their bits -/
end Kd
end Go.Proofs.YtlhijjfbcgconaaGreatDoorW.PrintWords

