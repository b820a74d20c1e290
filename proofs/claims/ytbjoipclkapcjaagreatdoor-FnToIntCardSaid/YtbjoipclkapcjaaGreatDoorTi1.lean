/- The digits of a decimal text, from the left. -/
import Derived.Test.YtbjoipclkapcjaaGreatDoorTi0
import Derived.Test.YtbjoipclkapcjaaGreatDoorSh
import Derived.Test.YtbjoipclkapcjaaGreatDoorPx0
import Derived.Lib.ItoaNum
set_option linter.unusedVariables false
set_option linter.unusedSimpArgs false
namespace Go.Proofs.YtbjoipclkapcjaaGreatDoor.P
open Go.RowKit Go.Proofs.YtbjoipclkapcjaaGreatDoorW.PrintWords Go.Proofs.YtbjoipclkapcjaaGreatDoorW.PrintLast Go.Proofs.YtbjoipclkapcjaaGreatDoorW.PrintMore

theorem list_get (s : ByteArray) (j : Nat) (h : j < s.size) : s.data.toList[j]? = some (s[j]'h) := by
  have h2 : j < s.data.toList.length := by rw [Array.length_toList]; exact h
  rw [List.getElem?_eq_getElem h2]
  rfl
theorem bt_opt (s : ByteArray) (j : Nat) : bt s (j : Int) = match s.data.toList[j]? with | some b => ((b.toNat : Nat) : Int) | none => 0 := by
  by_cases h : j < s.size
  · rw [list_get s j h, bt_nat s j h]
  · rw [List.getElem?_eq_none (by rw [Array.length_toList]; exact Nat.le_of_not_lt h)]
    unfold bt
    rw [dif_neg (by simpa using h)]
theorem bt_some {s : ByteArray} {j : Nat} {v : UInt8} (h : s.data.toList[j]? = some v) : bt s (j : Int) = (v.toNat : Int) := by rw [bt_opt, h]
theorem bt_ext (s : ByteArray) (a b j : Nat) (h : a + j < b) : bt (s.extract a b) (j : Int) = bt s ((a + j : Nat) : Int) := by
  rw [bt_opt, bt_opt, extract_list, List.getElem?_take, if_pos (by omega), List.getElem?_drop]
/-- The number that the first i of m digits say. -/
def DV (u m i : Nat) : Nat := u / 10 ^ (m - i)
/-- The digit at place i. -/
def DD (u m i : Nat) : Nat := u / 10 ^ (m - 1 - i) % 10
theorem DV_zero {u m : Nat} (h : u < 10 ^ m) : DV u m 0 = 0 := Nat.div_eq_of_lt h
theorem DV_all (u m : Nat) : DV u m m = u := by unfold DV; rw [Nat.sub_self]; simp
theorem DV_succ (u m i : Nat) (h : i < m) : DV u m (i + 1) = DV u m i * 10 + DD u m i := by
  unfold DV DD
  rw [show m - i = (m - 1 - i) + 1 by omega, show m - (i + 1) = m - 1 - i by omega, Nat.pow_succ, ← Nat.div_div_eq_div_mul]
  omega
theorem DV_le (u m i : Nat) : DV u m i ≤ u := Nat.div_le_self _ _
theorem DD_lt (u m i : Nat) : DD u m i < 10 := Nat.mod_lt _ (by decide)
theorem DV_pos {u m i : Nat} (h0 : 0 < u) (h : m = 1 ∨ 10 ^ (m - 1) ≤ u) (hi : 0 < i) : 0 < DV u m i := by
  refine Nat.div_pos ?_ (Nat.two_pow_pos 0 |> fun _ => Nat.pow_pos (by decide))
  rcases h with rfl | h
  · rw [show 1 - i = 0 by omega]
    rw [Nat.pow_zero]; exact h0
  · exact Nat.le_trans (Nat.pow_le_pow_right (by decide) (by omega)) h
/-- The text s is, from place o on, the number u in m digits. -/
structure Dg (s : ByteArray) (o u m : Nat) : Prop where
  size : s.size = o + m
  o1 : o ≤ 1
  m1 : 1 ≤ m
  m2 : m ≤ 15
  lt : u < 10 ^ m
  u15 : u < 1000000000000000
  lead : m = 1 ∨ 10 ^ (m - 1) ≤ u
  dig : ∀ i, i < m → bt s ((o + i : Nat) : Int) = 48 + ((DD u m i : Nat) : Int)
  sign : o = 1 → bt s 0 = 45 ∧ 0 < u
theorem Dg.first {s : ByteArray} {o u m : Nat} (h : Dg s o u m) (h0 : 0 < u) : 0 < DD u m 0 := by
  have h1 := DV_succ u m 0 (by have := h.m1; omega)
  rw [DV_zero h.lt] at h1
  have h2 := DV_pos (i := 0 + 1) h0 h.lead (by omega)
  omega
theorem Dg.tail {s : ByteArray} {u m : Nat} (h : Dg s 1 u m) : Dg (s.extract 1 s.size) 0 u m where
  size := by have := h.size; simp only [ByteArray.size_extract]; omega
  o1 := by omega
  m1 := h.m1
  m2 := h.m2
  lt := h.lt
  u15 := h.u15
  lead := h.lead
  dig := fun i hi => by
    rw [Nat.zero_add, bt_ext s 1 s.size i (by have := h.size; omega)]
    exact h.dig i hi
  sign := fun h => by omega
theorem u8_dig (i : Nat) (h : i < 10) : ((UInt8.ofNat (48 + i)).toNat : Int) = 48 + i := by
  rw [UInt8.toNat_ofNat']
  omega
theorem nd_lead (u : Nat) : Lib.nDigits u = 1 ∨ 10 ^ (Lib.nDigits u - 1) ≤ u := by
  induction u using Nat.strongRecOn with
  | _ u ih =>
    by_cases h : u < 10
    · exact .inl (Lib.nDigits_small h)
    · right
      rw [Lib.nDigits_big h, Nat.add_sub_cancel]
      rcases ih (u / 10) (by omega) with h1 | h1
      · rw [h1]; simp; omega
      · have h2 := Lib.nDigits_pos (u / 10)
        rw [show Lib.nDigits (u / 10) = (Lib.nDigits (u / 10) - 1) + 1 by omega, Nat.pow_succ]
        omega
theorem nd15 {u : Nat} (h : u < 1000000000000000) : Lib.nDigits u ≤ 15 := by
  rcases nd_lead u with h1 | h1
  · omega
  · by_cases hq : Lib.nDigits u ≤ 15
    · exact hq
    · exfalso
      have : 10 ^ 15 ≤ 10 ^ (Lib.nDigits u - 1) := Nat.pow_le_pow_right (by decide) (by omega)
      omega
theorem dg_text (s : ByteArray) (o u : Nat) (ho : o ≤ 1) (hu : u < 1000000000000000) (pre : List UInt8) (hp : pre.length = o) (hs : s.data.toList = pre ++ Lib.decDigits u) (hsg : o = 1 → pre = [45] ∧ 0 < u) : Dg s o u (Lib.nDigits u) where
  size := by rw [← size_list, hs, List.length_append, hp, Lib.decDigits_length]
  o1 := ho
  m1 := Lib.nDigits_pos u
  m2 := nd15 hu
  lt := Lib.lt_pow_nDigits u
  u15 := hu
  lead := nd_lead u
  dig := fun i hi => by
    have h1 : s.data.toList[o + i]? = some (Lib.dg u (Lib.nDigits u - 1 - i)) := by
      rw [hs, List.getElem?_append_right (by omega), hp, Nat.add_sub_cancel_left, Lib.decDigits_eq, List.getElem?_map, List.getElem?_range hi]
      rfl
    rw [bt_some h1]
    unfold Lib.dg
    rw [u8_dig _ (Nat.mod_lt _ (by decide))]
    rfl
  sign := fun h => by
    obtain ⟨h1, h2⟩ := hsg h
    refine ⟨?_, h2⟩
    have h3 : s.data.toList[0]? = some 45 := by rw [hs, h1]; rfl
    exact bt_some h3
theorem dg_itoa (n : Int) (h1 : -1000000000000000 < n) (h2 : n < 1000000000000000) : Dg ⟨(Lib.itoa n).toArray⟩ (if n < 0 then 1 else 0) n.natAbs (Lib.nDigits n.natAbs) := by
  by_cases h : n < 0
  · rw [if_pos h]
    refine dg_text _ 1 _ (by omega) (by omega) [45] rfl ?_ (fun _ => ⟨rfl, by omega⟩)
    unfold Lib.itoa
    rw [if_pos h]
    rfl
  · rw [if_neg h]
    refine dg_text _ 0 _ (by omega) (by omega) [] rfl ?_ (fun h => by omega)
    unfold Lib.itoa
    rw [if_neg h, show n.toNat = n.natAbs by omega]
    rfl
end Go.Proofs.YtbjoipclkapcjaaGreatDoor.P
