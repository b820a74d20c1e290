-- WRITTEN by xprint.py (a program of this session, over the kit's print) out of the translation. Not trusted: Lean checks it.
import Derived.Test.YtbcccmoddbmffaaDoorPx0
import Derived.Test.YtbcccmoddbmffaaDoorPx3
namespace Go.Proofs.YtbcccmoddbmffaaDoor.P
open Go.RowKit Go.Proofs.YtbcccmoddbmffaaDoorW.PrintWords Go.Proofs.YtbcccmoddbmffaaDoorW.PrintLast Go.Proofs.YtbcccmoddbmffaaDoorW.PrintMore
attribute [local go_sem] max2_int min2_int max_two min_two max_three min_three max_four min_four   -- for this text's walks alone
set_option linter.unusedVariables false
set_option linter.unusedSimpArgs false

-- GIVEN by hand: function 48 (xstrings_Slice)
/-! ### xstrings_Slice: function 48 -/
/-- What Slice tells; none: it panics. -/
def sliceF (s : ByteArray) (a b : Int) : Option ByteArray :=
  if a < 0 ∨ b > (s.size : Int) ∨ (0 ≤ b ∧ a > b) then none else
  if 0 < (adv s 0 a.toNat).2 then none else
  if b < 0 then some (s.extract (adv s 0 a.toNat).1 s.size) else
  if 0 < (adv s (adv s 0 a.toNat).1 (b - a).toNat).2 then none else
  some (s.extract (adv s 0 a.toNat).1 (adv s (adv s 0 a.toNat).1 (b - a).toNat).1)
set_option maxHeartbeats 1600000 in
set_option maxRecDepth 100000 in
theorem xstrings_Slice.both (a0 : ByteArray) (a1 a2 : Int) (w : World) (hs : a0.size ≤ 70368744177664) (hn63 : a1 ≤ 9223372036854775807) (HT0 : TabsU w) :
    Calls Tryd.prog 48 #[.string a0, .int .i64 a1, .int .i64 a2] w fun e w' => ((∃ r, sliceF a0 a1 a2 = some r ∧ e = .returned (.string r)) ∨ (sliceF a0 a1 a2 = none ∧ ∃ u pv, e = .panicked [{ v := .iface u pv, recovered := false }])) ∧ Below w.heap.size w w' := by
  have HT := Lib.hid HT0
  clear HT0
  have HB := Lib.hid (Below.refl w.heap.size w)
  by_cases c1 : a1 < 0 ∨ a2 > (a0.size : Int) ∨ (0 ≤ a2 ∧ a1 > a2)
  · have hF : sliceF a0 a1 a2 = none := by unfold sliceF; exact if_pos c1
    rw [hF]
    clear hF
    rcases c1 with c1 | c1 | ⟨c1, c2⟩
    · go_enter Tryd.func48, Tryd.ntmps48
      go_wp2
      exact And.intro rfl (And.intro (Or.inr ⟨trivial, _, _, rfl⟩) HB.out)
    · by_cases c0 : a1 < 0
      · go_enter Tryd.func48, Tryd.ntmps48
        go_wp2
        exact And.intro rfl (And.intro (Or.inr ⟨trivial, _, _, rfl⟩) HB.out)
      · go_enter Tryd.func48, Tryd.ntmps48
        go_wp2
        exact And.intro rfl (And.intro (Or.inr ⟨trivial, _, _, rfl⟩) HB.out)
    · by_cases c0 : a1 < 0
      · go_enter Tryd.func48, Tryd.ntmps48
        go_wp2
        exact And.intro rfl (And.intro (Or.inr ⟨trivial, _, _, rfl⟩) HB.out)
      · by_cases c3 : a2 > (a0.size : Int)
        · go_enter Tryd.func48, Tryd.ntmps48
          go_wp2
          exact And.intro rfl (And.intro (Or.inr ⟨trivial, _, _, rfl⟩) HB.out)
        · go_enter Tryd.func48, Tryd.ntmps48
          go_wp2
          exact And.intro rfl (And.intro (Or.inr ⟨trivial, _, _, rfl⟩) HB.out)
  have d1 : 0 ≤ a1 := by omega
  have d2 : a2 ≤ (a0.size : Int) := by omega
  have d3 : a2 < 0 ∨ a1 ≤ a2 := by omega
  obtain ⟨n, rfl⟩ : ∃ n : Nat, a1 = n := ⟨a1.toNat, by omega⟩
  obtain ⟨P, hP⟩ : ∃ P, P = (adv a0 0 n).1 := ⟨_, rfl⟩
  obtain ⟨R, hR⟩ : ∃ R, R = (adv a0 0 n).2 := ⟨_, rfl⟩
  have HA := Aside0.mk (show adv a0 0 n = (P, R) by rw [hP, hR])
  have hFF : sliceF a0 n a2 = if 0 < R then none else if a2 < 0 then some (a0.extract P a0.size) else if 0 < (adv a0 P (a2 - n).toNat).2 then none else some (a0.extract P (adv a0 P (a2 - n).toNat).1) := by
    unfold sliceF
    rw [if_neg c1, Int.toNat_natCast, ← hP, ← hR]
  clear c1 hP hR
  by_cases c3 : a2 < 0
  · rw [if_pos c3] at hFF
    rw [hFF]
    clear hFF d3
    go_enter Tryd.func48, Tryd.ntmps48
    go_wp2
    go_loopw [0, 1, 7, 8] (fun s n z p w' => ∃ (q m : Nat) (zz : Int), s = .string (a0.extract q a0.size) ∧ n = .int .i64 m ∧ z = .int .i64 zz ∧ p = .int .i64 q ∧ q ≤ a0.size ∧ Aside0 (adv a0 q m = (P, R)) ∧ Hid ((m : Int) ≤ 9223372036854775807) ∧ Hid (Below w.heap.size w w')) (fun _ _ _ p _ => a0.size - (intOf p).toNat)
    case atStart => exact ⟨0, n, 0, by rw [extract_whole], rfl, rfl, rfl, Nat.zero_le _, HA, Lib.hid hn63, HB⟩
    case round =>
      obtain ⟨q, m, zz, rfl, rfl, rfl, rfl, hq, hA, hm, hB⟩ := hrel
      by_cases cm : 0 < m
      · by_cases cq : q < a0.size
        · obtain ⟨m, rfl⟩ : ∃ k, m = k + 1 := ⟨m - 1, by omega⟩
          have hz : (a0.extract q a0.size).size = a0.size - q := by rw [ByteArray.size_extract, Nat.min_self]
          have hz1 : ((a0.extract q a0.size).size : Int) > 0 := by rw [hz]; omega
          have hwl := width_le a0 q cq
          have hwp := width_pos a0 q cq
          have hgo := decodeGo_at a0 q cq
          have hst := adv_step a0 q m cq
          have hA' := Aside0.mk (hst.symm.trans hA.out)
          have hm' := Lib.hid (show ((m : Nat) : Int) ≤ 9223372036854775807 by have := hm.out; omega)
          clear hA hst hm
          have hx1 : ((a0.extract q a0.size).extract (Utf8.decode a0 q).2 (a0.extract q a0.size).size) = a0.extract (q + (Utf8.decode a0 q).2) a0.size := extract_tail a0 q _ hwl
          have hC : utf8_DecodeRuneInString.f (a0.extract q a0.size) = some (((Utf8.decode a0 q).1 : Int), ((Utf8.decode a0 q).2 : Int)) := by unfold utf8_DecodeRuneInString.f; rw [hgo]
          have hCC := Lib.hid hC
          clear hC hgo
          have hcm : ((m : Int) + 1 > 0) := by omega
          have hlen2 : ((Utf8.decode a0 q).2 : Int) ≤ ((a0.extract q a0.size).size : Int) := by rw [hz]; omega
          generalize (Utf8.decode a0 q).2 = d at *
          generalize (Utf8.decode a0 q).1 = ch at *
          have hx1' := Lib.hid hx1
          clear hx1
          go_wp2_with fail
          refine (utf8_DecodeRuneInString.calls _ _ _ _ hCC.out (TabsU.below HT.out hB.out)).mono ?_
          rintro e w2 ⟨rfl, hb2⟩
          have hB2 := Lib.hid (below_step hB.out hb2)
          clear hb2 hB hCC
          go_wp2
          go_roundw
          case rel => exact ⟨q + d, m, d, by rw [← hz, hx1'.out], by rw [w64_in (by omega) (by have := hm'.out; omega)], rfl, by go_num, by omega, hA', hm', hB2⟩
          case measure => simp [intOf]; omega
        · have hz : (a0.extract q a0.size).size = 0 := by rw [ByteArray.size_extract, Nat.min_self]; omega
          obtain rfl : q = a0.size := by omega
          have hE := hA.out.symm.trans (adv_end a0 a0.size m cq)
          obtain ⟨rfl, rfl⟩ := Prod.mk.inj hE
          clear hE hA HA
          go_wp2
          exact And.intro rfl (And.intro (Or.inr ⟨if_pos cm, _, _, rfl⟩) hB.out)
      · obtain rfl : m = 0 := by omega
        have hE := hA.out.symm.trans (adv_zero a0 q)
        obtain ⟨rfl, rfl⟩ := Prod.mk.inj hE
        clear hE hA HA
        go_wp2
        go_ret
        exact ⟨rfl, hB.out⟩
  · have d4 : (n : Int) ≤ a2 := by omega
    rw [if_neg c3] at hFF
    obtain ⟨M, hM⟩ : ∃ M : Nat, M = (a2 - n).toNat := ⟨_, rfl⟩
    rw [← hM] at hFF
    rw [hFF]
    clear hFF d3
    have hMi : a2 - (n : Int) = (M : Int) := by omega
    have hM63 : (M : Int) ≤ 9223372036854775807 := by omega
    obtain ⟨P2, hP2⟩ : ∃ P2, P2 = (adv a0 P M).1 := ⟨_, rfl⟩
    obtain ⟨R2, hR2⟩ : ∃ R2, R2 = (adv a0 P M).2 := ⟨_, rfl⟩
    have HA2 := Aside0.mk (show adv a0 P M = (P2, R2) by rw [hP2, hR2])
    rw [← hP2, ← hR2]
    clear hP2 hR2 hM
    go_enter Tryd.func48, Tryd.ntmps48
    go_wp2
    go_loopw [0, 1, 7, 8] (fun s n z p w' => ∃ (q m : Nat) (zz : Int), s = .string (a0.extract q a0.size) ∧ n = .int .i64 m ∧ z = .int .i64 zz ∧ p = .int .i64 q ∧ q ≤ a0.size ∧ Aside0 (adv a0 q m = (P, R)) ∧ Hid ((m : Int) ≤ 9223372036854775807) ∧ Hid (Below w.heap.size w w')) (fun _ _ _ p _ => a0.size - (intOf p).toNat)
    case atStart => exact ⟨0, n, 0, by rw [extract_whole], rfl, rfl, rfl, Nat.zero_le _, HA, Lib.hid hn63, HB⟩
    case round =>
      obtain ⟨q, m, zz, rfl, rfl, rfl, rfl, hq, hA, hm, hB⟩ := hrel
      by_cases cm : 0 < m
      · by_cases cq : q < a0.size
        · obtain ⟨m, rfl⟩ : ∃ k, m = k + 1 := ⟨m - 1, by omega⟩
          have hz : (a0.extract q a0.size).size = a0.size - q := by rw [ByteArray.size_extract, Nat.min_self]
          have hz1 : ((a0.extract q a0.size).size : Int) > 0 := by rw [hz]; omega
          have hwl := width_le a0 q cq
          have hwp := width_pos a0 q cq
          have hgo := decodeGo_at a0 q cq
          have hst := adv_step a0 q m cq
          have hA' := Aside0.mk (hst.symm.trans hA.out)
          have hm' := Lib.hid (show ((m : Nat) : Int) ≤ 9223372036854775807 by have := hm.out; omega)
          clear hA hst hm
          have hx1 : ((a0.extract q a0.size).extract (Utf8.decode a0 q).2 (a0.extract q a0.size).size) = a0.extract (q + (Utf8.decode a0 q).2) a0.size := extract_tail a0 q _ hwl
          have hC : utf8_DecodeRuneInString.f (a0.extract q a0.size) = some (((Utf8.decode a0 q).1 : Int), ((Utf8.decode a0 q).2 : Int)) := by unfold utf8_DecodeRuneInString.f; rw [hgo]
          have hCC := Lib.hid hC
          clear hC hgo
          have hcm : ((m : Int) + 1 > 0) := by omega
          have hlen2 : ((Utf8.decode a0 q).2 : Int) ≤ ((a0.extract q a0.size).size : Int) := by rw [hz]; omega
          generalize (Utf8.decode a0 q).2 = d at *
          generalize (Utf8.decode a0 q).1 = ch at *
          have hx1' := Lib.hid hx1
          clear hx1
          go_wp2_with fail
          refine (utf8_DecodeRuneInString.calls _ _ _ _ hCC.out (TabsU.below HT.out hB.out)).mono ?_
          rintro e w2 ⟨rfl, hb2⟩
          have hB2 := Lib.hid (below_step hB.out hb2)
          clear hb2 hB hCC
          go_wp2
          go_roundw
          case rel => exact ⟨q + d, m, d, by rw [← hz, hx1'.out], by rw [w64_in (by omega) (by have := hm'.out; omega)], rfl, by go_num, by omega, hA', hm', hB2⟩
          case measure => simp [intOf]; omega
        · have hz : (a0.extract q a0.size).size = 0 := by rw [ByteArray.size_extract, Nat.min_self]; omega
          obtain rfl : q = a0.size := by omega
          have hE := hA.out.symm.trans (adv_end a0 a0.size m cq)
          obtain ⟨rfl, rfl⟩ := Prod.mk.inj hE
          clear hE hA HA
          go_wp2
          exact And.intro rfl (And.intro (Or.inr ⟨if_pos cm, _, _, rfl⟩) hB.out)
      · obtain rfl : m = 0 := by omega
        have hE := hA.out.symm.trans (adv_zero a0 q)
        obtain ⟨rfl, rfl⟩ := Prod.mk.inj hE
        clear hE hA HA
        clear hm
        have hM63' := Lib.hid hM63
        clear hM63
        go_wp2
        go_loopw [0, 2, 7, 9] (fun s n z p w' => ∃ (q m : Nat) (zz : Int), s = .string (a0.extract q a0.size) ∧ n = .int .i64 m ∧ z = .int .i64 zz ∧ p = .int .i64 q ∧ P ≤ q ∧ q ≤ a0.size ∧ Aside0 (adv a0 q m = (P2, R2)) ∧ Hid ((m : Int) ≤ 9223372036854775807) ∧ Hid (Below w.heap.size w w')) (fun _ _ _ p _ => a0.size - (intOf p).toNat)
        case atStart => exact ⟨P, M, zz, rfl, by first | rfl | rw [hMi], rfl, rfl, Nat.le_refl _, hq, HA2, hM63', hB⟩
        case round =>
          obtain ⟨q, m, zz2, rfl, rfl, rfl, rfl, hPq, hq2, hA, hm, hB⟩ := hrel
          by_cases cm : 0 < m
          · by_cases cq : q < a0.size
            · obtain ⟨m, rfl⟩ : ∃ k, m = k + 1 := ⟨m - 1, by omega⟩
              have hz : (a0.extract q a0.size).size = a0.size - q := by rw [ByteArray.size_extract, Nat.min_self]
              have hz1 : ((a0.extract q a0.size).size : Int) > 0 := by rw [hz]; omega
              have hwl := width_le a0 q cq
              have hwp := width_pos a0 q cq
              have hgo := decodeGo_at a0 q cq
              have hst := adv_step a0 q m cq
              have hA' := Aside0.mk (hst.symm.trans hA.out)
              have hm' := Lib.hid (show ((m : Nat) : Int) ≤ 9223372036854775807 by have := hm.out; omega)
              clear hA hst hm
              have hx1 : ((a0.extract q a0.size).extract (Utf8.decode a0 q).2 (a0.extract q a0.size).size) = a0.extract (q + (Utf8.decode a0 q).2) a0.size := extract_tail a0 q _ hwl
              have hC : utf8_DecodeRuneInString.f (a0.extract q a0.size) = some (((Utf8.decode a0 q).1 : Int), ((Utf8.decode a0 q).2 : Int)) := by unfold utf8_DecodeRuneInString.f; rw [hgo]
              have hCC := Lib.hid hC
              clear hC hgo
              have hcm : ((m : Int) + 1 > 0) := by omega
              have hlen2 : ((Utf8.decode a0 q).2 : Int) ≤ ((a0.extract q a0.size).size : Int) := by rw [hz]; omega
              generalize (Utf8.decode a0 q).2 = d at *
              generalize (Utf8.decode a0 q).1 = ch at *
              have hx1' := Lib.hid hx1
              clear hx1
              go_wp2_with fail
              refine (utf8_DecodeRuneInString.calls _ _ _ _ hCC.out (TabsU.below HT.out hB.out)).mono ?_
              rintro e w2 ⟨rfl, hb2⟩
              have hB2 := Lib.hid (below_step hB.out hb2)
              clear hb2 hB hCC
              go_wp2
              go_roundw
              case rel => (repeat apply Exists.intro); exact ⟨⟨q + d, m, d, by rw [← hz, hx1'.out], by rw [w64_in (by omega) (by have := hm'.out; omega)], rfl, by go_num, by omega, by omega, hA', hm', hB2⟩, rfl⟩
              case measure => simp [intOf]; omega
            · have hz : (a0.extract q a0.size).size = 0 := by rw [ByteArray.size_extract, Nat.min_self]; omega
              obtain rfl : q = a0.size := by omega
              have hE := hA.out.symm.trans (adv_end a0 a0.size m cq)
              obtain ⟨rfl, rfl⟩ := Prod.mk.inj hE
              clear hE hA HA2
              go_wp2
              exact And.intro rfl (And.intro (Or.inr ⟨by first | exact if_pos cm | simp [cm], _, _, rfl⟩) hB.out)
          · obtain rfl : m = 0 := by omega
            have hE := hA.out.symm.trans (adv_zero a0 q)
            obtain ⟨rfl, rfl⟩ := Prod.mk.inj hE
            clear hE hA HA2
            by_cases cs : (a0.extract P2 a0.size).size = 0
            · go_wp2
              all_goals (go_ret; exact ⟨rfl, hB.out⟩)
            · go_wp2
              all_goals (go_ret; exact ⟨rfl, hB.out⟩)
def sliceOk (s : ByteArray) (a : Int) : Bool := decide (s.size ≤ 70368744177664) && decide (a ≤ 9223372036854775807)
def xstrings_Slice.f (a0 : ByteArray) (a1 a2 : Int) : Option ByteArray := if sliceOk a0 a1 = true then sliceF a0 a1 a2 else none
theorem xstrings_Slice.calls (a0 : ByteArray) (a1 a2 : Int) (r : ByteArray) (w : World) (h : xstrings_Slice.f a0 a1 a2 = some r) (HT : TabsU w) :
    Calls Tryd.prog 48 #[.string a0, .int .i64 a1, .int .i64 a2] w fun e w' => e = .returned (.string r) ∧ Below w.heap.size w w' := by
  unfold xstrings_Slice.f at h
  split at h
  · rename_i hc
    simp only [sliceOk, Bool.and_eq_true, decide_eq_true_eq] at hc
    refine (xstrings_Slice.both a0 a1 a2 w hc.1 hc.2 HT).mono ?_
    rintro e w' ⟨⟨r', hr, rfl⟩ | ⟨hr, _⟩, hb⟩
    · rw [hr] at h
      injection h with h
      subst h
      exact ⟨rfl, hb⟩
    · rw [hr] at h
      cases h
  · cases h
theorem xstrings_Slice.panics (a0 : ByteArray) (a1 a2 : Int) (w : World) (h : sliceOk a0 a1 = true ∧ (sliceF a0 a1 a2).isNone = true) (HT : TabsU w) :
    Calls Tryd.prog 48 #[.string a0, .int .i64 a1, .int .i64 a2] w fun e w' => (∃ u pv, e = .panicked [{ v := .iface u pv, recovered := false }]) ∧ Below w.heap.size w w' := by
  obtain ⟨hc, hn⟩ := h
  simp only [sliceOk, Bool.and_eq_true, decide_eq_true_eq] at hc
  refine (xstrings_Slice.both a0 a1 a2 w hc.1 hc.2 HT).mono ?_
  rintro e w' ⟨⟨r', hr, rfl⟩ | ⟨_, hp⟩, hb⟩
  · rw [hr] at hn
    cases hn
  · exact ⟨hp, hb⟩

end Go.Proofs.YtbcccmoddbmffaaDoor.P
