/- FnSemverOrder holds. -/
import Derived.Test.YtlhijjfbcgconaaDoorZSo5
set_option linter.unusedVariables false
set_option linter.unusedSimpArgs false
namespace Go.Proofs.YtlhijjfbcgconaaDoor.P
open Go.RowKit Go.Proofs.YtlhijjfbcgconaaDoorW.PrintWords Go.Proofs.YtlhijjfbcgconaaDoorW.PrintLast Go.Proofs.YtlhijjfbcgconaaDoorW.PrintMore

/-- What laws.version9 answers at a text. -/
theorem v9 (s : ByteArray) : ∃ (n1 n2 n3 : Int) (pre mt : ByteArray) (q : Bool), (∀ W : World, Calls Tryd.prog 12 #[.string s] W fun e w' => e = .returned (.tuple #[.agg #[.int .u64 n1, .int .u64 n2, .int .u64 n3, .string pre, .string mt], .bool q]) ∧ Below W.heap.size W w') ∧
    (q = true → ∃ a b c d, Form s a b c d n1 n2 n3 pre mt ∧ ∃ l, IdL pre l) := by
  obtain ⟨⟨n1, n2, n3, pre, mt, ok⟩, ⟨K, hK⟩, hf⟩ := parse_ev s
  cases ok with
  | false => exact ⟨n1, n2, n3, pre, mt, false, fun W => version9_no K s n1 n2 n3 pre mt (hK K (Nat.le_refl _)) W, fun h => by cases h⟩
  | true =>
    obtain ⟨a, b, c, d, hform⟩ := hf rfl
    obtain ⟨q, l, ⟨K2, hK2⟩, hq⟩ := short_ev hform
    refine ⟨n1, n2, n3, pre, mt, q, fun W => version9_call (max K K2) s n1 n2 n3 pre mt (hK _ (by omega)) q (hK2 _ (by omega)) W, fun h => ⟨a, b, c, d, hform, l, hq h⟩⟩
end Go.Proofs.YtlhijjfbcgconaaDoor.P

