-- WRITTEN by xprint.py (a program of this session, over the kit's print) out of the translation. Not trusted: Lean checks it.
import Derived.Test.YtbcccmoddbmffaaDoorPx0
import Derived.Test.YtbcccmoddbmffaaDoorPx3
import Derived.Test.YtbcccmoddbmffaaDoorPx6
import Derived.Test.YtbcccmoddbmffaaDoorPx7
import Derived.Test.YtbcccmoddbmffaaDoorPx17
import Derived.Test.YtbcccmoddbmffaaDoorPx20
import Derived.Test.YtbcccmoddbmffaaDoorPx21
import Derived.Test.YtbcccmoddbmffaaDoorPx22
namespace Go.Proofs.YtbcccmoddbmffaaDoor.P
open Go.RowKit Go.Proofs.YtbcccmoddbmffaaDoorW.PrintWords Go.Proofs.YtbcccmoddbmffaaDoorW.PrintLast Go.Proofs.YtbcccmoddbmffaaDoorW.PrintMore
attribute [local go_sem] max2_int min2_int max_two min_two max_three min_three max_four min_four   -- for this text's walks alone
set_option linter.unusedVariables false
set_option linter.unusedSimpArgs false

-- GIVEN by hand: function 49 (xstrings_LeftJustify)
/-! ### xstrings_LeftJustify: function 49 -/
def small3 (s : ByteArray) (n : Int) (pad : ByteArray) : Bool := decide (s.size ≤ 1048576) && decide (pad.size ≤ 1048576) && decide (n ≤ 1048576)
theorem len_some {s : ByteArray} (h : s.size ≤ 1048576) : xstrings_Len.f s = some ((runesOf s).length : Int) := by
  unfold xstrings_Len.f utf8_RuneCountInString.f
  rw [if_pos (by omega)]
  rfl
theorem runes_pos {s : ByteArray} (h : ¬ s.toList = []) : 0 < (runesOf s).length := by
  have h0 : 0 < s.size := by
    by_cases hz : s.size = 0
    · refine absurd ?_ h
      rw [ByteArray.toList_eq]
      exact List.eq_nil_of_length_eq_zero (by rw [size_list]; exact hz)
    · omega
  obtain ⟨n, hn⟩ : ∃ n, s.size = n + 1 := ⟨s.size - 1, by omega⟩
  unfold runesOf
  rw [hn, runesGo, if_pos h0]
  simp
theorem just_bound {a b c : Nat} (h1 : a ≤ 1048576) (h2 : b ≤ 1048576) (h3 : c ≤ 1048576) : a + (b + 2) * c ≤ 2000000000000 := by
  have h := Nat.mul_le_mul (show b + 2 ≤ 1048578 by omega) h3
  omega
theorem pad_length (pad : ByteArray) (n r : Nat) : (padB pad n r).length ≤ (r + 1) * pad.size := by
  unfold padB
  rw [List.length_append, repL_length, size_list, List.length_take, size_list, Nat.add_mul, Nat.one_mul]
  have h : r / n * pad.size ≤ r * pad.size := Nat.mul_le_mul_right _ (Nat.div_le_self r n)
  omega
/-- What LeftJustify tells. -/
def LeftJustifyF (s : ByteArray) (n : Int) (pad : ByteArray) : ByteArray :=
  if ((runesOf s).length : Int) ≥ n then s else if pad.toList = [] then s else
  ⟨(s.data.toList ++ padB pad (runesOf pad).length (n - (runesOf s).length).toNat).toArray⟩
def xstrings_LeftJustify.f (a0 : ByteArray) (a1 : Int) (a2 : ByteArray) : Option ByteArray := if small3 a0 a1 a2 = true then some (LeftJustifyF a0 a1 a2) else none
set_option maxHeartbeats 1600000 in
set_option maxRecDepth 100000 in
theorem xstrings_LeftJustify.calls (a0 : ByteArray) (a1 : Int) (a2 : ByteArray) (r : ByteArray) (w : World) (h : xstrings_LeftJustify.f a0 a1 a2 = some r) (HT0 : TabsU w) :
    Calls Tryd.prog 49 #[.string a0, .int .i64 a1, .string a2] w fun e w' => e = .returned (.string r) ∧ Below w.heap.size w w' := by
  unfold xstrings_LeftJustify.f at h
  split at h
  · rename_i hc
    injection h with hr
    simp only [small3, Bool.and_eq_true, decide_eq_true_eq] at hc
    obtain ⟨⟨h1, h2⟩, h3⟩ := hc
    have HT := Lib.hid HT0
    clear HT0
    have HL := Lib.hid (len_some h1)
    by_cases c1 : ((runesOf a0).length : Int) ≥ a1
    · have hr' : a0 = r := by rw [← hr]; unfold LeftJustifyF; rw [if_pos c1]
      clear hr
      subst hr'
      go_enter Tryd.func49, Tryd.ntmps49
      go_wp2_with fail
      refine (xstrings_Len.calls _ _ _ HL.out).mono ?_
      rintro e w1 ⟨rfl, hb⟩
      have HB := Lib.hid hb
      clear hb
      go_wp2
      go_ret
      exact ⟨rfl, HB.out⟩
    · by_cases c2 : a2.toList = []
      · have hr' : a0 = r := by rw [← hr]; unfold LeftJustifyF; rw [if_neg c1, if_pos c2]
        clear hr
        subst hr'
        go_enter Tryd.func49, Tryd.ntmps49
        go_wp2_with fail
        refine (xstrings_Len.calls _ _ _ HL.out).mono ?_
        rintro e w1 ⟨rfl, hb⟩
        have HB := Lib.hid hb
        clear hb
        go_wp2
        go_ret
        exact ⟨rfl, HB.out⟩
      · obtain ⟨n, hn⟩ : ∃ n : Nat, a1 = ((runesOf a0).length : Int) + n := ⟨(a1 - (runesOf a0).length).toNat, by omega⟩
        obtain ⟨q, hq⟩ : ∃ q, q = (runesOf a2).length := ⟨_, rfl⟩
        have hq0 := runes_pos c2
        have hql := runesOf_length a2
        have hal := runesOf_length a0
        obtain ⟨la, hla⟩ : ∃ q, q = (runesOf a0).length := ⟨_, rfl⟩
        rw [← hq] at hq0 hql
        rw [← hla] at hal hn c1
        have HL2 := Lib.hid (show xstrings_Len.f a2 = some (q : Int) by rw [len_some h2, hq])
        have HL1 := Lib.hid (show xstrings_Len.f a0 = some (la : Int) by rw [HL.out, hla])
        have HR := Lib.hid (show r = ⟨(a0.data.toList ++ padB a2 q n).toArray⟩ by
          rw [← hr]
          unfold LeftJustifyF
          rw [← hla, if_neg c1, if_neg c2, hn, show ((la : Int) + (n : Int) - (la : Int)).toNat = n by omega, ← hq])
        clear hr HL
        subst hn
        have c2b : (a2.toList == []) = false := by simpa using c2
        have c2c : (!a2.toList.isEmpty) = true := by simpa using c2
        clear c2 hq hla
        have hn1 : 0 < n := by omega
        have hn2 : n ≤ 1048576 := by omega
        obtain ⟨Q, hQ⟩ : ∃ Q, Q = n / q := ⟨_, rfl⟩
        have hQn : Q ≤ n := by rw [hQ]; exact Nat.div_le_self n q
        have hQ2 : (n : Int) / (q : Int) = (Q : Int) := by rw [hQ]; rfl
        obtain ⟨M, hM⟩ : ∃ M, M = (Q + 1) * a2.size := ⟨_, rfl⟩
        have hM2 : ((Q : Int) + 1) * (a2.size : Int) = (M : Int) := by rw [hM]; simp
        have hMb : M ≤ 2000000000000 := by
          rw [hM]
          have := Nat.mul_le_mul (show Q + 1 ≤ 1048577 by omega) h2
          omega
        obtain ⟨G, hG⟩ : ∃ G, G = a0.size + M := ⟨_, rfl⟩
        have hG2 : (a0.size : Int) + (M : Int) = (G : Int) := by omega
        have hG3 : G ≤ 281474976710656 := by omega
        clear hQ hM hG
        have PMn := Lib.hid (show (n + 2) * a2.size ≤ 2000000000000 by have := just_bound (Nat.zero_le 1048576) hn2 h2; omega)
        have PLn := Lib.hid (show (padB a2 q n).length ≤ 2000000000000 from Nat.le_trans (pad_length a2 q n) (Nat.le_trans (Nat.mul_le_mul_right _ (by omega)) PMn.out))
        have hs1 : (la : Int) + (n : Int) - (la : Int) = (n : Int) := by omega
        have hs2 : decide ((la : Int) + (n : Int) ≤ (la : Int)) = false := by simp; omega
        go_enter Tryd.func49, Tryd.ntmps49
        go_wp2_with fail
        refine (xstrings_Len.calls _ _ _ HL1.out).mono ?_
        rintro e w1 ⟨rfl, hb⟩
        have HB1 := Lib.hid hb
        clear hb
        go_wp2_with fail
        refine (xstrings_Len.calls _ _ _ HL2.out).mono ?_
        rintro e w2 ⟨rfl, hb⟩
        have HB2 := Lib.hid (below_step HB1.out hb)
        clear hb HB1
        go_wp2_with fail
        refine (Builder_Grow.bld w.heap.size _ G _ HB2.out.size (heap_alloc_new _ _) (Nat.le_trans HB2.out.size (by simp)) (by omega)).mono ?_
        rintro e w3 ⟨rfl, hf, hb⟩
        have F := Lib.hid hf
        have BB := Lib.hid ((HB2.out.alloc HB2.out.size _).trans hb)
        have SS := Lib.hid BB.out.size
        have Z := Lib.hid (show ([] : List UInt8).length ≤ 0 from Nat.le_refl _)
        clear hf hb HB2
        go_wp2_with fail
        refine (Builder_WriteString.bld w.heap.size _ _ _ _ F.out (Nat.le_trans (Nat.add_le_add Z.out h1) (by decide)) SS.out).mono ?_
        rintro e w4 ⟨rfl, hf, hb⟩
        have F' := Lib.hid hf
        have BB' := Lib.hid (BB.out.trans hb)
        have SS' := Lib.hid (Nat.le_trans SS.out hb.size)
        have Z' := Lib.hid (show ([] ++ a0.data.toList).length ≤ 1048576 by rw [List.length_append, size_list]; exact Nat.add_le_add Z.out h1)
        clear hf hb F BB SS Z
        have F := F'
        have BB := BB'
        have SS := SS'
        have Z := Z'
        clear F' BB' SS' Z'
        go_wp2_with fail
        refine (writePadString.bld w.heap.size _ _ _ q n _ F.out hq0 (by omega) (Nat.le_trans (Nat.add_le_add Z.out PMn.out) (by decide)) (by omega) SS.out (fun w' hb => TabsU.below HT.out (BB.out.trans hb))).mono ?_
        rintro e w5 ⟨rfl, hf, hb⟩
        have F' := Lib.hid hf
        have BB' := Lib.hid (BB.out.trans hb)
        have SS' := Lib.hid (Nat.le_trans SS.out hb.size)
        have Z' := Lib.hid (show ([] ++ a0.data.toList ++ padB a2 q n).length ≤ 2000001048576 by rw [List.length_append]; exact Nat.add_le_add Z.out PLn.out)
        clear hf hb F BB SS Z
        have F := F'
        have BB := BB'
        have SS := SS'
        have Z := Z'
        clear F' BB' SS' Z'
        go_wp2_with fail
        refine (Builder_String.bld w.heap.size _ _ _ F.out SS.out).mono ?_
        rintro e wl ⟨rfl, hf, hb⟩
        have BB2 := Lib.hid (BB.out.trans hb)
        clear hf hb F BB Z
        go_wp2
        go_ret
        exact ⟨by rw [HR.out]; simp, BB2.out⟩
  · cases h

end Go.Proofs.YtbcccmoddbmffaaDoor.P
