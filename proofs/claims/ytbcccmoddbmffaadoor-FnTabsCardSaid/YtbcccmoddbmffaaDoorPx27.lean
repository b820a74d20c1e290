-- WRITTEN by xprint.py (a program of this session, over the kit's print) out of the translation. Not trusted: Lean checks it.
import Derived.Test.YtbcccmoddbmffaaDoorPx0
import Derived.Test.YtbcccmoddbmffaaDoorPx3
import Derived.Test.YtbcccmoddbmffaaDoorPx7
import Derived.Test.YtbcccmoddbmffaaDoorPx17
import Derived.Test.YtbcccmoddbmffaaDoorPx20
import Derived.Test.YtbcccmoddbmffaaDoorPx21
import Derived.Test.YtbcccmoddbmffaaDoorPx22
import Derived.Test.YtbcccmoddbmffaaDoorPx23
namespace Go.Proofs.YtbcccmoddbmffaaDoor.P
open Go.RowKit Go.Proofs.YtbcccmoddbmffaaDoorW.PrintWords Go.Proofs.YtbcccmoddbmffaaDoorW.PrintLast Go.Proofs.YtbcccmoddbmffaaDoorW.PrintMore
attribute [local go_sem] max2_int min2_int max_two min_two max_three min_three max_four min_four   -- for this text's walks alone
set_option linter.unusedVariables false
set_option linter.unusedSimpArgs false

-- GIVEN by hand: function 53 (xstrings_Center)
/-! ### xstrings_Center: function 53 -/
/-- What Center tells. -/
def CenterF (s : ByteArray) (n : Int) (pad : ByteArray) : ByteArray :=
  if ((runesOf s).length : Int) ≥ n then s else if pad.toList = [] then s else
  ⟨(padB pad (runesOf pad).length ((n - (runesOf s).length).toNat / 2) ++ s.data.toList ++ padB pad (runesOf pad).length (((n - (runesOf s).length).toNat + 1) / 2)).toArray⟩
def xstrings_Center.f (a0 : ByteArray) (a1 : Int) (a2 : ByteArray) : Option ByteArray := if small3 a0 a1 a2 = true then some (CenterF a0 a1 a2) else none
set_option maxHeartbeats 1600000 in
set_option maxRecDepth 100000 in
theorem xstrings_Center.calls (a0 : ByteArray) (a1 : Int) (a2 : ByteArray) (r : ByteArray) (w : World) (h : xstrings_Center.f a0 a1 a2 = some r) (HT0 : TabsU w) :
    Calls Tryd.prog 53 #[.string a0, .int .i64 a1, .string a2] w fun e w' => e = .returned (.string r) ∧ Below w.heap.size w w' := by
  unfold xstrings_Center.f at h
  split at h
  · rename_i hc
    injection h with hr
    simp only [small3, Bool.and_eq_true, decide_eq_true_eq] at hc
    obtain ⟨⟨h1, h2⟩, h3⟩ := hc
    have HT := Lib.hid HT0
    clear HT0
    have HL := Lib.hid (len_some h1)
    by_cases c1 : ((runesOf a0).length : Int) ≥ a1
    · have hr' : a0 = r := by rw [← hr]; unfold CenterF; rw [if_pos c1]
      clear hr
      subst hr'
      go_enter Tryd.func53, Tryd.ntmps53
      go_wp2_with fail
      refine (xstrings_Len.calls _ _ _ HL.out).mono ?_
      rintro e w1 ⟨rfl, hb⟩
      have HB := Lib.hid hb
      clear hb
      go_wp2
      go_ret
      exact ⟨rfl, HB.out⟩
    · by_cases c2 : a2.toList = []
      · have hr' : a0 = r := by rw [← hr]; unfold CenterF; rw [if_neg c1, if_pos c2]
        clear hr
        subst hr'
        go_enter Tryd.func53, Tryd.ntmps53
        go_wp2_with fail
        refine (xstrings_Len.calls _ _ _ HL.out).mono ?_
        rintro e w1 ⟨rfl, hb⟩
        have HB := Lib.hid hb
        clear hb
        go_wp2
        go_ret
        exact ⟨rfl, HB.out⟩
      · obtain ⟨n, hn⟩ : ∃ n : Nat, a1 = ((runesOf a0).length : Int) + n := ⟨(a1 - (runesOf a0).length).toNat, by omega⟩
        obtain ⟨q, hq⟩ : ∃ q, q = (runesOf a2).length := ⟨_, rfl⟩
        have hq0 := runes_pos c2
        have hql := runesOf_length a2
        have hal := runesOf_length a0
        obtain ⟨la, hla⟩ : ∃ q, q = (runesOf a0).length := ⟨_, rfl⟩
        rw [← hq] at hq0 hql
        rw [← hla] at hal hn c1
        have HL2 := Lib.hid (show xstrings_Len.f a2 = some (q : Int) by rw [len_some h2, hq])
        have HL1 := Lib.hid (show xstrings_Len.f a0 = some (la : Int) by rw [HL.out, hla])
        have HR := Lib.hid (show r = ⟨(padB a2 q (n / 2) ++ a0.data.toList ++ padB a2 q ((n + 1) / 2)).toArray⟩ by
          rw [← hr]
          unfold CenterF
          rw [← hla, if_neg c1, if_neg c2, hn, show ((la : Int) + (n : Int) - (la : Int)).toNat = n by omega, ← hq])
        clear hr HL
        subst hn
        have c2b : (a2.toList == []) = false := by simpa using c2
        have c2c : (!a2.toList.isEmpty) = true := by simpa using c2
        clear c2 hq hla
        have hn1 : 0 < n := by omega
        have hn2 : n ≤ 1048576 := by omega
        obtain ⟨Q, hQ⟩ : ∃ Q, Q = n / q := ⟨_, rfl⟩
        have hQn : Q ≤ n := by rw [hQ]; exact Nat.div_le_self n q
        have hQ2 : (n : Int) / (q : Int) = (Q : Int) := by rw [hQ]; rfl
        obtain ⟨M, hM⟩ : ∃ M, M = (Q + 1) * a2.size := ⟨_, rfl⟩
        have hM2 : ((Q : Int) + 1) * (a2.size : Int) = (M : Int) := by rw [hM]; simp
        have hMb : M ≤ 2000000000000 := by
          rw [hM]
          have := Nat.mul_le_mul (show Q + 1 ≤ 1048577 by omega) h2
          omega
        obtain ⟨G, hG⟩ : ∃ G, G = a0.size + M := ⟨_, rfl⟩
        have hG2 : (a0.size : Int) + (M : Int) = (G : Int) := by omega
        have hG3 : G ≤ 281474976710656 := by omega
        clear hQ hM hG
        obtain ⟨m1, hm1⟩ : ∃ m1, m1 = n / 2 := ⟨_, rfl⟩
        obtain ⟨m2, hm2⟩ : ∃ m2, m2 = (n + 1) / 2 := ⟨_, rfl⟩
        have hd1 : (n : Int) / 2 = (m1 : Int) := by omega
        have hd2 : ((n : Int) + 1) / 2 = (m2 : Int) := by omega
        have hmm1 : m1 ≤ 1048576 := by omega
        have hmm2 : m2 ≤ 1048576 := by omega
        have HM1 := Lib.hid hm1
        have HM2 := Lib.hid hm2
        clear hm1 hm2
        have PMm1 := Lib.hid (show (m1 + 2) * a2.size ≤ 2000000000000 by have := just_bound (Nat.zero_le 1048576) hmm1 h2; omega)
        have PLm1 := Lib.hid (show (padB a2 q m1).length ≤ 2000000000000 from Nat.le_trans (pad_length a2 q m1) (Nat.le_trans (Nat.mul_le_mul_right _ (by omega)) PMm1.out))
        have PMm2 := Lib.hid (show (m2 + 2) * a2.size ≤ 2000000000000 by have := just_bound (Nat.zero_le 1048576) hmm2 h2; omega)
        have PLm2 := Lib.hid (show (padB a2 q m2).length ≤ 2000000000000 from Nat.le_trans (pad_length a2 q m2) (Nat.le_trans (Nat.mul_le_mul_right _ (by omega)) PMm2.out))
        have hs1 : (la : Int) + (n : Int) - (la : Int) = (n : Int) := by omega
        have hs2 : decide ((la : Int) + (n : Int) ≤ (la : Int)) = false := by simp; omega
        go_enter Tryd.func53, Tryd.ntmps53
        go_wp2_with fail
        refine (xstrings_Len.calls _ _ _ HL1.out).mono ?_
        rintro e w1 ⟨rfl, hb⟩
        have HB1 := Lib.hid hb
        clear hb
        go_wp2_with fail
        refine (xstrings_Len.calls _ _ _ HL2.out).mono ?_
        rintro e w2 ⟨rfl, hb⟩
        have HB2 := Lib.hid (below_step HB1.out hb)
        clear hb HB1
        go_wp2_with fail
        refine (Builder_Grow.bld w.heap.size _ G _ HB2.out.size (heap_alloc_new _ _) (Nat.le_trans HB2.out.size (by simp)) (by omega)).mono ?_
        rintro e w3 ⟨rfl, hf, hb⟩
        have F := Lib.hid hf
        have BB := Lib.hid ((HB2.out.alloc HB2.out.size _).trans hb)
        have SS := Lib.hid BB.out.size
        have Z := Lib.hid (show ([] : List UInt8).length ≤ 0 from Nat.le_refl _)
        clear hf hb HB2
        go_wp2_with fail
        refine (writePadString.bld w.heap.size _ _ _ q m1 _ F.out hq0 (by omega) (Nat.le_trans (Nat.add_le_add Z.out PMm1.out) (by decide)) (by omega) SS.out (fun w' hb => TabsU.below HT.out (BB.out.trans hb))).mono ?_
        rintro e w4 ⟨rfl, hf, hb⟩
        have F' := Lib.hid hf
        have BB' := Lib.hid (BB.out.trans hb)
        have SS' := Lib.hid (Nat.le_trans SS.out hb.size)
        have Z' := Lib.hid (show ([] ++ padB a2 q m1).length ≤ 2000000000000 by rw [List.length_append]; exact Nat.add_le_add Z.out PLm1.out)
        clear hf hb F BB SS Z
        have F := F'
        have BB := BB'
        have SS := SS'
        have Z := Z'
        clear F' BB' SS' Z'
        go_wp2_with fail
        refine (Builder_WriteString.bld w.heap.size _ _ _ _ F.out (Nat.le_trans (Nat.add_le_add Z.out h1) (by decide)) SS.out).mono ?_
        rintro e w5 ⟨rfl, hf, hb⟩
        have F' := Lib.hid hf
        have BB' := Lib.hid (BB.out.trans hb)
        have SS' := Lib.hid (Nat.le_trans SS.out hb.size)
        have Z' := Lib.hid (show ([] ++ padB a2 q m1 ++ a0.data.toList).length ≤ 2000001048576 by rw [List.length_append, size_list]; exact Nat.add_le_add Z.out h1)
        clear hf hb F BB SS Z
        have F := F'
        have BB := BB'
        have SS := SS'
        have Z := Z'
        clear F' BB' SS' Z'
        go_wp2_with fail
        refine (writePadString.bld w.heap.size _ _ _ q m2 _ F.out hq0 (by omega) (Nat.le_trans (Nat.add_le_add Z.out PMm2.out) (by decide)) (by omega) SS.out (fun w' hb => TabsU.below HT.out (BB.out.trans hb))).mono ?_
        rintro e w6 ⟨rfl, hf, hb⟩
        have F' := Lib.hid hf
        have BB' := Lib.hid (BB.out.trans hb)
        have SS' := Lib.hid (Nat.le_trans SS.out hb.size)
        have Z' := Lib.hid (show ([] ++ padB a2 q m1 ++ a0.data.toList ++ padB a2 q m2).length ≤ 4000001048576 by rw [List.length_append]; exact Nat.add_le_add Z.out PLm2.out)
        clear hf hb F BB SS Z
        have F := F'
        have BB := BB'
        have SS := SS'
        have Z := Z'
        clear F' BB' SS' Z'
        go_wp2_with fail
        refine (Builder_String.bld w.heap.size _ _ _ F.out SS.out).mono ?_
        rintro e wl ⟨rfl, hf, hb⟩
        have BB2 := Lib.hid (BB.out.trans hb)
        clear hf hb F BB Z
        go_wp2
        go_ret
        exact ⟨by rw [HR.out, ← HM1.out, ← HM2.out]; simp, BB2.out⟩
  · cases h

end Go.Proofs.YtbcccmoddbmffaaDoor.P
