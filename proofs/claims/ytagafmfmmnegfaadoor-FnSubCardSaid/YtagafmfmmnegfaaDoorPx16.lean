-- WRITTEN by xprint.py (a program of this session, over the kit's print) out of the translation. Not trusted: Lean checks it.
import Derived.Test.YtagafmfmmnegfaaDoorPx0
import Derived.Test.YtagafmfmmnegfaaDoorPx12
import Derived.Test.YtagafmfmmnegfaaDoorPx15
namespace Go.Proofs.YtagafmfmmnegfaaDoor.P
open Go.RowKit Go.Proofs.YtagafmfmmnegfaaDoorW.PrintWords Go.Proofs.YtagafmfmmnegfaaDoorW.PrintLast Go.Proofs.YtagafmfmmnegfaaDoorW.PrintMore
attribute [local go_sem] max2_int min2_int max_two min_two max_three min_three max_four min_four   -- for this text's walks alone
set_option linter.unusedVariables false
set_option linter.unusedSimpArgs false

-- GIVEN by hand: function 90 (sprig_add)
/-! ### sprig_add: function 90 -/
def sum64 (l : List Int) : Int := l.foldl (fun a b => wrap64 (a + b)) 0
theorem sum64_snoc (l : List Int) (a : Int) : sum64 (l ++ [a]) = wrap64 (sum64 l + a) := by simp [sum64]
theorem ifs_at (l : List Int) (k : Nat) (h : k < l.length) : (ifs l)[k]? = some (.iface 2 (.int .i64 (rd l k))) := by
  simp [ifs, rd, List.getD_eq_getElem?_getD, h]
set_option maxHeartbeats 1600000 in
set_option maxRecDepth 100000 in
theorem sprig_add.row (B : Nat) (v : Value) (l : List Int) (w : World) (ho : w.ownsRow B 20 1 v l.length (ifs l)) (hn : l.length ≤ 1000000) :
    Calls Tryd.prog 90 #[v] w fun e w' => e = .returned (.int .i64 (sum64 l)) ∧ w = w' := by
  obtain ⟨n, hnn⟩ : ∃ n, n = l.length := ⟨_, rfl⟩
  have HN := Lib.hid hnn
  rw [← hnn] at hn ho
  clear hnn
  have HO := Lib.hid ho
  obtain ⟨A, c, rfl⟩ : ∃ A c, v = .slice A n c := by
    obtain ⟨_, ⟨rfl, rfl⟩ | ⟨g, cap, cur, rfl, _⟩⟩ := ho
    · exact ⟨_, _, rfl⟩
    · exact ⟨_, _, rfl⟩
  clear ho
  go_enter Tryd.func90, Tryd.ntmps90
  go_wp2
  go_loop [3, 5, 8] (fun s x i => ∃ (k : Nat) (xv : Value), s = .int .i64 (sum64 (l.take k)) ∧ x = xv ∧ i = .int .i64 k ∧ k ≤ n) (fun _ _ i => n - (intOf i).toNat)
  case atStart => exact ⟨0, _, rfl, rfl, rfl, Nat.zero_le _⟩
  case round =>
    obtain ⟨k, xv, rfl, rfl, rfl, hk⟩ := hrel
    by_cases ck : k < n
    · obtain ⟨g, rfl⟩ : ∃ g, A = some ⟨g, 0, none⟩ := by
        obtain ⟨_, ⟨h, h0⟩ | ⟨g, cap, cur, h, _⟩⟩ := HO.out
        · omega
        · injection h with h _ _
          exact ⟨g, h⟩
      have hcell : w.cell? ⟨g, k, none⟩ = some (.iface 2 (.int .i64 (rd l k))) := by
        have := HO.out.cells (g := g) rfl k _ (ifs_at l k (by rw [← HN.out]; exact ck))
        rw [Addr.add_lit, Nat.zero_add] at this
        exact this
      have hnx := Lib.hid (show sum64 (l.take (k + 1)) = wrap64 (sum64 (l.take k) + rd l k) by rw [take_rd l k (by rw [← HN.out]; exact ck), sum64_snoc])
      go_wp2_with (first | (go_at_call 135; ((with_reducible refine (cast_ToInt64.i64 _ _).mono ?_)); rintro e w' ⟨rfl, rfl⟩) | go_in)
      go_round
      case rel => exact ⟨k + 1, _, by rw [hnx.out], rfl, by go_num, by omega⟩
      case measure => simp [intOf]; omega
    · have hkn : k = n := by omega
      subst hkn
      have hall := Lib.hid (show l.take k = l by rw [HN.out, List.take_length])
      go_wp2
      go_ret
      exact ⟨congrArg (fun z => Ending.returned (Value.int .i64 (sum64 z))) hall.out, rfl⟩

end Go.Proofs.YtagafmfmmnegfaaDoor.P
