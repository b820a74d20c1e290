-- WRITTEN by xprint.py (a program of this session, over the kit's print) out of the translation. Not trusted: Lean checks it.
import Derived.Test.YtbcccmoddbmffaaDoorPx0
import Derived.Test.YtbcccmoddbmffaaDoorPx3
import Derived.Test.YtbcccmoddbmffaaDoorPx17
namespace Go.Proofs.YtbcccmoddbmffaaDoor.P
open Go.RowKit Go.Proofs.YtbcccmoddbmffaaDoorW.PrintWords Go.Proofs.YtbcccmoddbmffaaDoorW.PrintLast Go.Proofs.YtbcccmoddbmffaaDoorW.PrintMore
attribute [local go_sem] max2_int min2_int max_two min_two max_three min_three max_four min_four   -- for this text's walks alone
set_option linter.unusedVariables false
set_option linter.unusedSimpArgs false

-- GIVEN by hand: function 72 (xstrings_writePadString)
/-! ### xstrings_writePadString: function 72 -/
/-- A text r div n times, then its first r mod n characters. -/
def repL (l : List UInt8) (q : Nat) : List UInt8 := (List.replicate q l).flatten
theorem repL_succ (l : List UInt8) (q : Nat) : repL l (q + 1) = repL l q ++ l := by
  unfold repL
  rw [List.replicate_succ', List.flatten_concat]
theorem repL_length (l : List UInt8) (q : Nat) : (repL l q).length = q * l.length := by
  simp [repL]
def padB (pad : ByteArray) (n r : Nat) : List UInt8 := repL pad.data.toList (r / n) ++ pad.data.toList.take (adv pad 0 (r % n)).1
theorem adv_succ (s : ByteArray) : ∀ (n p : Nat), adv s p (n + 1) = if (adv s p n).1 < s.size then ((adv s p n).1 + (Utf8.decode s (adv s p n).1).2, 0) else ((adv s p n).1, (adv s p n).2 + 1)
  | 0, p => by
    rw [adv_zero]
    by_cases h : p < s.size
    · rw [adv_step s p 0 h, adv_zero, if_pos h]
    · rw [adv_end s p 1 h, if_neg h]
  | n + 1, p => by
    by_cases h : p < s.size
    · rw [adv_step s p (n + 1) h, adv_succ s n, adv_step s p n h]
    · rw [adv_end s p (n + 2) h, adv_end s p (n + 1) h, if_neg h]
theorem decodeGo_none (s : ByteArray) (p : Nat) (h : ¬ p < s.size) : Lib.decodeGo (s.extract p s.size) = (65533, 0) := by
  unfold Lib.decodeGo
  rw [if_pos (by rw [ByteArray.size_extract]; omega)]
theorem take_ext (s : ByteArray) (p d : Nat) : (s.extract p (p + d)).data.toList = (s.data.toList.drop p).take d := by
  rw [extract_list, Nat.add_sub_cancel_left]
set_option maxHeartbeats 1600000 in
set_option maxRecDepth 100000 in
theorem writePadString.bld (B b : Nat) (l : List UInt8) (pad : ByteArray) (n r : Nat) (w : World) (h : BF B b l w) (hn : 0 < n) (hr : r ≤ 4294967296) (hlen : l.length + (r + 2) * pad.size ≤ 70368744177664) (hn2 : n ≤ 70368744177664) (hBw : B ≤ w.heap.size) (HT0 : ∀ w', Below B w w' → TabsU w') :
    Calls Tryd.prog 72 #[.pointer (some ⟨b, 0, none⟩), .string pad, .int .i64 n, .int .i64 r] w fun e w' => e = .returned (.tuple #[]) ∧ BF B b (l ++ padB pad n r) w' ∧ Below B w w' := by
  have HT := Lib.hid HT0
  have H0 := Lib.hid h
  have HBW := Lib.hid hBw
  have HLen := Lib.hid hlen
  clear HT0 h hBw hlen
  obtain ⟨q, hq⟩ : ∃ q, q = r / n := ⟨_, rfl⟩
  obtain ⟨m, hm⟩ : ∃ m, m = r % n := ⟨_, rfl⟩
  have hqr : q ≤ r := by rw [hq]; exact Nat.div_le_self r n
  have hmr : m ≤ r := by rw [hm]; exact Nat.mod_le r n
  have e1 : (r : Int) / (n : Int) = (q : Int) := by rw [hq]; rfl
  have e2 : (r : Int) % (n : Int) = (m : Int) := by rw [hm]; rfl
  have HP := Lib.hid (show padB pad n r = repL pad.data.toList q ++ pad.data.toList.take (adv pad 0 m).1 by unfold padB; rw [hq, hm])
  have E2 := Lib.hid e2
  clear hq hm e2
  go_enter Tryd.func72, Tryd.ntmps72
  go_wp2
  go_loopw [10] (fun i w' => ∃ j : Nat, i = .int .i64 j ∧ j ≤ q ∧ Hid (BF B b (l ++ repL pad.data.toList j) w') ∧ Hid (Below B w w') ∧ Hid (B ≤ w'.heap.size)) (fun i _ => q - (intOf i).toNat)
  case atStart => exact ⟨0, rfl, by omega, Lib.hid (by rw [show repL pad.data.toList 0 = [] from rfl, List.append_nil]; exact H0.out), Lib.hid (Below.refl _ _), HBW⟩
  case round =>
    obtain ⟨j, rfl, hj, hF, hB, hBw⟩ := hrel
    by_cases cj : j < q
    · have hnx := Lib.hid (show l ++ repL pad.data.toList (j + 1) = (l ++ repL pad.data.toList j) ++ pad.data.toList by rw [repL_succ, List.append_assoc])
      have hl2 : Hid ((l ++ repL pad.data.toList j).length + pad.size ≤ 140737488355328) := Lib.hid (by
        rw [List.length_append, repL_length, size_list]
        have h1 : (j + 1) * pad.size ≤ (r + 2) * pad.size := Nat.mul_le_mul_right _ (by omega)
        have h2 := HLen.out
        rw [Nat.succ_mul] at h1
        generalize (r + 2) * pad.size = z at *
        generalize j * pad.size = y at *
        omega)
      go_wp2_with fail
      refine (Builder_WriteString.bld B b _ pad _ hF.out hl2.out hBw.out).mono ?_
      rintro e w2 ⟨rfl, hf2, hb2⟩
      have hf2' := Lib.hid hf2
      have hB2 := Lib.hid (hB.out.trans hb2)
      have hBw2 := Lib.hid (Nat.le_trans hBw.out hb2.size)
      clear hf2 hb2
      go_wp2
      go_roundw
      case rel => exact ⟨j + 1, by go_num, by omega, Lib.hid (by rw [hnx.out]; exact hf2'.out), hB2, hBw2⟩
      case measure => simp [intOf]; omega
    · have hjq : j = q := by omega
      subst hjq
      have e2 := E2.out
      clear E2
      by_cases cm : m = 0
      · subst cm
        have hfin := Lib.hid (show l ++ padB pad n r = l ++ repL pad.data.toList j by rw [HP.out, adv_zero]; simp)
        go_wp2
        go_end0
        exact ⟨rfl, by rw [hfin.out]; exact hF.out, hB.out⟩
      · have cm0 : ((m : Int) != 0) = true := by simpa using cm
        clear cm
        go_wp2
        rw [e2]
        clear e2 e1
        go_loopw [1, 8, 11] (fun s z i w' => ∃ (p k : Nat) (zz : Int), s = .string (pad.extract p pad.size) ∧ z = .int .i64 zz ∧ i = .int .i64 k ∧ k ≤ m ∧ Hid ((adv pad 0 k).1 = p) ∧ Hid (p ≤ pad.size) ∧ Hid (BF B b (l ++ (repL pad.data.toList j ++ pad.data.toList.take p)) w') ∧ Hid (Below B w w') ∧ Hid (B ≤ w'.heap.size)) (fun _ _ i _ => m - (intOf i).toNat)
        case atStart => exact ⟨0, 0, 0, by rw [extract_whole], rfl, rfl, by omega, Lib.hid (by rw [adv_zero]), Lib.hid (Nat.zero_le _), Lib.hid (by rw [List.take_zero, List.append_nil]; exact hF.out), hB, hBw⟩
        case round =>
          clear hF hB hBw
          obtain ⟨p, k, zz, rfl, rfl, rfl, hk, hp, hps, hF, hB, hBw⟩ := hrel
          by_cases ck : k < m
          · obtain ⟨d, hd⟩ : ∃ d, d = (Lib.decodeGo (pad.extract p pad.size)).2 := ⟨_, rfl⟩
            obtain ⟨c, hc⟩ : ∃ c, c = (Lib.decodeGo (pad.extract p pad.size)).1 := ⟨_, rfl⟩
            have hdp : p + d ≤ pad.size ∧ (adv pad 0 (k + 1)).1 = p + d := by
              rw [adv_succ, hp.out]
              by_cases hlt : p < pad.size
              · rw [if_pos hlt, hd, decodeGo_at pad p hlt]
                exact ⟨width_le pad p hlt, rfl⟩
              · rw [if_neg hlt, hd, decodeGo_none pad p hlt]
                exact ⟨hps.out, rfl⟩
            obtain ⟨hd1, hd2⟩ := hdp
            have hC := Lib.hid (show utf8_DecodeRuneInString.f (pad.extract p pad.size) = some ((c : Int), (d : Int)) by unfold utf8_DecodeRuneInString.f; rw [hc, hd])
            clear hd hc
            have hps' := hps.out
            have hz : (pad.extract p pad.size).size = pad.size - p := by rw [ByteArray.size_extract, Nat.min_self]
            have hlen2 : (d : Int) ≤ ((pad.extract p pad.size).size : Int) := by rw [hz]; omega
            have hlen3 : d ≤ pad.size - p := by omega
            have hx1 := extract_tail pad p d hd1
            have hx3 : (pad.extract p pad.size).extract d (pad.size - p) = pad.extract (p + d) pad.size := by rw [← hx1, hz]
            have hx2 : (pad.extract p pad.size).extract 0 d = pad.extract p (p + d) := by
              rw [ByteArray.extract_extract]
              congr 1
              omega
            have hx1' := Lib.hid hx1
            have hx2' := Lib.hid hx2
            have hx3' := Lib.hid hx3
            have hd2' := Lib.hid hd2
            have hz' := Lib.hid hz
            clear hx1 hx2 hx3 hd2 hz
            go_wp2_with fail
            refine (utf8_DecodeRuneInString.calls _ _ _ _ hC.out (HT.out _ hB.out)).mono ?_
            rintro e w2 ⟨rfl, hb2⟩
            have hF2 := Lib.hid (hF.out.below hb2)
            have hB2 := Lib.hid (hB.out.trans (hb2.mono hBw.out))
            have hBw2 := Lib.hid (Nat.le_trans hBw.out hb2.size)
            clear hb2
            have hx2 := hx2'.out
            go_wp2_with fail
            have hl2 : Hid ((l ++ (repL pad.data.toList j ++ pad.data.toList.take p)).length + (pad.extract p (p + d)).size ≤ 140737488355328) := Lib.hid (by
              rw [List.length_append, List.length_append, repL_length, size_list, List.length_take, size_list, ByteArray.size_extract]
              have h1 : (j + 2) * pad.size ≤ (r + 2) * pad.size := Nat.mul_le_mul_right _ (by omega)
              have h2 := HLen.out
              rw [Nat.add_mul, Nat.two_mul] at h1
              generalize (r + 2) * pad.size = z at *
              generalize j * pad.size = y at *
              omega)
            refine (Builder_WriteString.bld B b _ _ _ hF2.out hl2.out hBw2.out).mono ?_
            rintro e w3 ⟨rfl, hf3, hb3⟩
            have hF3 := Lib.hid hf3
            have hB3 := Lib.hid (hB2.out.trans hb3)
            have hBw3 := Lib.hid (Nat.le_trans hBw2.out hb3.size)
            clear hf3 hb3 hF hB hBw hF2 hB2 hBw2
            go_wp2
            go_roundw
            case rel =>
              refine ⟨p + d, k + 1, _, by rw [hx3'.out], rfl, by go_num, by omega, hd2', Lib.hid hd1, Lib.hid ?_, hB3, hBw3⟩
              have := hF3.out
              rw [take_ext, List.append_assoc, List.append_assoc, ← List.take_add] at this
              exact this
            case measure => simp [intOf]; omega
          · have hkm : k = m := by omega
            subst hkm
            have hfin := Lib.hid (show l ++ padB pad n r = l ++ (repL pad.data.toList j ++ pad.data.toList.take p) by rw [HP.out, hp.out])
            go_wp2
            go_end0
            exact ⟨rfl, by rw [hfin.out]; exact hF.out, hB.out⟩

end Go.Proofs.YtbcccmoddbmffaaDoor.P
