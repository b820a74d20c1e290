-- WRITTEN by xprint.py (a program of this session, over the kit's print) out of the translation. Not trusted: Lean checks it.
import Derived.Test.YtagafmfmmnegfaaDoorPx0
namespace Go.Proofs.YtagafmfmmnegfaaDoor.P
open Go.RowKit Go.Proofs.YtagafmfmmnegfaaDoorW.PrintWords Go.Proofs.YtagafmfmmnegfaaDoorW.PrintLast Go.Proofs.YtagafmfmmnegfaaDoorW.PrintMore
attribute [local go_sem] max2_int min2_int max_two min_two max_three min_three max_four min_four   -- for this text's walks alone
set_option linter.unusedVariables false
set_option linter.unusedSimpArgs false

-- GIVEN by hand: function 68 (impl_anys)
/-! ### impl_anys: function 68 -/
def ifs (l : List Int) : List Value := l.map fun a => Value.iface 2 (.int .i64 a)
theorem ifs_snoc (l : List Int) (a : Int) : ifs (l ++ [a]) = ifs l ++ [.iface 2 (.int .i64 a)] := by simp [ifs]
theorem ifs_length (l : List Int) : (ifs l).length = l.length := by simp [ifs]
theorem take_rd (l : List Int) (k : Nat) (h : k < l.length) : l.take (k + 1) = l.take k ++ [rd l k] := by
  rw [List.take_succ_eq_append_getElem h]
  congr 2
  simp [rd, List.getD_eq_getElem?_getD, h]
theorem own_base_le {w : World} {base : Nat} {e : TypeId} {size : Nat} {v : Value} {n : Nat} {xs : List Value} (h : w.ownsRow base e size v n xs) {q : Nat} (hq : v.ownBlock = some q) : base ≤ q := by
  obtain ⟨_, ⟨rfl, _⟩ | ⟨g, cap, cur, rfl, hb, _⟩⟩ := h
  · simp [Value.ownBlock] at hq
  · simp [Value.ownBlock] at hq
    omega
set_option maxHeartbeats 1600000 in
set_option maxRecDepth 100000 in
theorem impl_anys.row (A0 : Option Addr) (c0 : Nat) (l : List Int) (w : World) (hr : Kd.C (Kd.int .i64) w A0 l.length l) (hn : l.length ≤ 1000000) :
    Calls Tryd.prog 68 #[.slice A0 l.length c0] w fun e w' => ∃ v, e = .returned v ∧ w'.ownsRow w.heap.size 20 1 v l.length (ifs l) ∧ Below w.heap.size w w' := by
  obtain ⟨i0, hi, hz0, hz1, hz2⟩ := info_parts (show (Tryd.prog.info? 20).map (fun i => (i.zero, i.size, i.bytes)) = some (some .nilIface, 1, 16) by kernel_rfl)
  have HC := Lib.hid hr
  clear hr
  obtain ⟨n, hnn⟩ : ∃ n, n = l.length := ⟨_, rfl⟩
  have HN := Lib.hid hnn
  rw [← hnn] at hn
  rw [← hnn]
  clear hnn
  go_enter Tryd.func68, Tryd.ntmps68
  go_wp2
  go_loopw [3, 5, 8] (fun v x i w' => ∃ (k : Nat) (xv : Value), x = xv ∧ i = .int .i64 k ∧ k ≤ n ∧ Hid (w'.ownsRow w.heap.size 20 1 v k (ifs (l.take k))) ∧ Hid (Below w.heap.size w w')) (fun _ _ i _ => n - (intOf i).toNat)
  case atStart => exact ⟨0, _, rfl, rfl, Nat.zero_le _, Lib.hid ⟨rfl, Or.inl ⟨rfl, rfl⟩⟩, Lib.hid (Below.refl _ _)⟩
  case round =>
    obtain ⟨k, xv, rfl, rfl, hk, hO, hB⟩ := hrel
    by_cases ck : k < n
    · obtain ⟨ad, rfl, hcell0⟩ := Kd.at_int (Kd.C_below HC.out hB.out) (k : Int) (by omega) (by rw [← HN.out]; omega)
      have hcell : wr.cell? (ad.add k) = some (.int .i64 (rd l k)) := hcell0
      clear hcell0
      have hO2 := Lib.hid (hO.out.alloc (.cells #[.iface 2 (.int .i64 (rd l k))] 20))
      have hsz : Hid (w.heap.size ≤ wr.heap.size) := Lib.hid hB.out.size
      have hnx := Lib.hid (take_rd l k (by rw [← HN.out]; exact ck))
      go_wp2_with (first | (at_builtin; refine wpList_append_own _ rfl _ _ 63 rfl w.heap.size 20 i0 .nilIface 1 16 Tryd.underlying63 hi hz0 hz1 hz2 rfl (by decide) _ k _ rfl hO2.out ⟨wr.heap.size, 0, none⟩ 1 1 [.iface 2 (.int .i64 (rd l k))] rfl rfl ?_ ?_ (by unfold maxLen; omega) (by omega) (by simp; exact Nat.le_trans hsz.out (by omega)) ?_) | fail)
      · intro j u hu
        cases j with
        | zero =>
          simp only [List.getElem?_cons_zero, Option.some.injEq] at hu
          subst hu
          rw [Addr.add_lit]
          exact cell_of_one (heap_alloc_new _ _)
        | succ j => simp at hu
      · intro u hu
        rw [List.mem_singleton.1 hu]
        rfl
      · intro v' w1 hown hg _
        have hO3 := Lib.hid (show w1.ownsRow w.heap.size 20 1 v' (k + 1) (ifs (l.take (k + 1))) by rw [hnx.out, ifs_snoc]; exact hown)
        have hB3 := Lib.hid (Below.grown (hB.out.alloc hsz.out _) hg (by simp; exact Nat.le_trans hsz.out (by omega)) (fun q hq => own_base_le hO2.out hq))
        clear hown hg hO hO2 hB hcell
        go_wp2
        go_roundw
        case rel => exact ⟨k + 1, _, rfl, by go_num, by omega, hO3, hB3⟩
        case measure => simp [intOf]; omega
    · have hkn : k = n := by omega
      subst hkn
      have hall : l.take k = l := by rw [HN.out, List.take_length]
      have hO3 := Lib.hid (show wr.ownsRow w.heap.size 20 1 u3 k (ifs l) by have := hO.out; rw [hall] at this; exact this)
      clear hO hall
      go_wp2
      go_ret
      exact ⟨_, rfl, hO3.out, hB.out⟩

end Go.Proofs.YtagafmfmmnegfaaDoor.P
