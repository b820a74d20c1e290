/- FnSemverOrder holds. -/
import Derived.Test.YtlhijjfbcgconaaGreatDoorZSo5
set_option linter.unusedVariables false
set_option linter.unusedSimpArgs false
namespace Go.Proofs.YtlhijjfbcgconaaGreatDoor.P
open Go.RowKit Go.Proofs.YtlhijjfbcgconaaGreatDoorW.PrintWords Go.Proofs.YtlhijjfbcgconaaGreatDoorW.PrintLast Go.Proofs.YtlhijjfbcgconaaGreatDoorW.PrintMore

theorem ord3_range (n1 n2 n3 m1 m2 m3 : Int) : ord3 n1 n2 n3 m1 m2 m3 = -1 ∨ ord3 n1 n2 n3 m1 m2 m3 = 0 ∨ ord3 n1 n2 n3 m1 m2 m3 = 1 := by
  unfold ord3
  split
  · exact seg3_range _ _
  · split
    · exact seg3_range _ _
    · exact seg3_range _ _
theorem cmpV_range (n1 n2 n3 m1 m2 m3 : Int) (pa pb : ByteArray) (l m : List ByteArray) : cmpV n1 n2 n3 m1 m2 m3 pa pb (cmpL l m) = -1 ∨ cmpV n1 n2 n3 m1 m2 m3 pa pb (cmpL l m) = 0 ∨ cmpV n1 n2 n3 m1 m2 m3 pa pb (cmpL l m) = 1 := by
  unfold cmpV
  split
  · exact ord3_range _ _ _ _ _ _
  · unfold preC
    split
    · split <;> simp
    · split
      · simp
      · exact cmpL_range l m
/-- What laws.version9 answers at a text. -/
theorem v9 (s : ByteArray) : ∃ (n1 n2 n3 : Int) (pre mt : ByteArray) (q : Bool), (∀ W : World, Calls Tryz.prog 4 #[.string s] W fun e w' => e = .returned (.tuple #[.agg #[.int .u64 n1, .int .u64 n2, .int .u64 n3, .string pre, .string mt], .bool q]) ∧ Below W.heap.size W w') ∧
    (q = true → ∃ a b c d, Form s a b c d n1 n2 n3 pre mt ∧ ∃ l, IdL pre l) := by
  obtain ⟨⟨n1, n2, n3, pre, mt, ok⟩, ⟨K, hK⟩, hf⟩ := parse_ev s
  cases ok with
  | false => exact ⟨n1, n2, n3, pre, mt, false, fun W => version9_no K s n1 n2 n3 pre mt (hK K (Nat.le_refl _)) W, fun h => by cases h⟩
  | true =>
    obtain ⟨a, b, c, d, hform⟩ := hf rfl
    obtain ⟨q, l, ⟨K2, hK2⟩, hq⟩ := short_ev hform
    refine ⟨n1, n2, n3, pre, mt, q, fun W => version9_call (max K K2) s n1 n2 n3 pre mt (hK _ (by omega)) q (hK2 _ (by omega)) W, fun h => ⟨a, b, c, d, hform, l, hq h⟩⟩
end Go.Proofs.YtlhijjfbcgconaaGreatDoor.P

