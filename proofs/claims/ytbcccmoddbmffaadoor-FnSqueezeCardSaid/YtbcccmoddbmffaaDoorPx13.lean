-- WRITTEN by xprint.py (a program of this session, over the kit's print) out of the translation. Not trusted: Lean checks it.
import Derived.Test.YtbcccmoddbmffaaDoorPx0
import Derived.Test.YtbcccmoddbmffaaDoorPx3
import Derived.Test.YtbcccmoddbmffaaDoorPx6
import Derived.Test.YtbcccmoddbmffaaDoorPx7
import Derived.Test.YtbcccmoddbmffaaDoorPx11
namespace Go.Proofs.YtbcccmoddbmffaaDoor.P
open Go.RowKit Go.Proofs.YtbcccmoddbmffaaDoorW.PrintWords Go.Proofs.YtbcccmoddbmffaaDoorW.PrintLast Go.Proofs.YtbcccmoddbmffaaDoorW.PrintMore
attribute [local go_sem] max2_int min2_int max_two min_two max_three min_three max_four min_four   -- for this text's walks alone
set_option linter.unusedVariables false
set_option linter.unusedSimpArgs false

-- GIVEN by hand: function 61 (xstrings_Squeeze)
/-! ### xstrings_Squeeze: function 61 -/
/-- What Squeeze writes from place p on, behind acc, the last piece being given. -/
def sqGo (s : ByteArray) : Nat → Nat → ByteArray → List UInt8 → List UInt8
  | 0, _, _, acc => acc
  | k + 1, p, last, acc => if p < s.size then
      if 0 < last.size ∧ s.extract p (p + (Utf8.decode s p).2) = last then sqGo s k (p + (Utf8.decode s p).2) last acc
      else sqGo s k (p + (Utf8.decode s p).2) (s.extract p (p + (Utf8.decode s p).2)) (acc ++ (s.data.toList.drop p).take (Utf8.decode s p).2)
    else acc
theorem sqGo_skip (s : ByteArray) (k p : Nat) (last : ByteArray) (acc : List UInt8) (h : p < s.size) (hc : 0 < last.size ∧ s.extract p (p + (Utf8.decode s p).2) = last) : sqGo s (k + 1) p last acc = sqGo s k (p + (Utf8.decode s p).2) last acc := by
  rw [sqGo, if_pos h, if_pos hc]
theorem sqGo_put (s : ByteArray) (k p : Nat) (last : ByteArray) (acc : List UInt8) (h : p < s.size) (hc : ¬ (0 < last.size ∧ s.extract p (p + (Utf8.decode s p).2) = last)) : sqGo s (k + 1) p last acc = sqGo s k (p + (Utf8.decode s p).2) (s.extract p (p + (Utf8.decode s p).2)) (acc ++ (s.data.toList.drop p).take (Utf8.decode s p).2) := by
  rw [sqGo, if_pos h, if_neg hc]
theorem sqGo_end (s : ByteArray) (k p : Nat) (last : ByteArray) (acc : List UInt8) (h : ¬ p < s.size) : sqGo s k p last acc = acc := by
  cases k with
  | zero => rw [sqGo]
  | succ k => rw [sqGo, if_neg h]
def sqOk (s t : ByteArray) : Bool := decide (s.size ≤ 1048576) && decide (t.size = 0)
def xstrings_Squeeze.f (a0 a1 : ByteArray) : Option ByteArray := if sqOk a0 a1 = true then some ⟨(sqGo a0 a0.size 0 ⟨#[]⟩ []).toArray⟩ else none
/-- Where the output stands: nowhere yet, or in a builder. -/
def OutSq (B : Nat) (v : Value) (s : ByteArray) (p : Nat) (acc : List UInt8) (w : World) : Prop :=
  (v = .pointer none ∧ acc = s.data.toList.take p) ∨ ∃ b, v = .pointer (some ⟨b, 0, none⟩) ∧ BF B b acc w
set_option maxHeartbeats 3200000 in
set_option maxRecDepth 100000 in
theorem xstrings_Squeeze.calls (a0 a1 : ByteArray) (r : ByteArray) (w : World) (h : xstrings_Squeeze.f a0 a1 = some r) (HT0 : TabsU w) :
    Calls Tryd.prog 61 #[.string a0, .string a1] w fun e w' => e = .returned (.string r) ∧ Below w.heap.size w w' := by
  unfold xstrings_Squeeze.f at h
  split at h
  · rename_i hc
    injection h with hr
    simp only [sqOk, Bool.and_eq_true, decide_eq_true_eq] at hc
    obtain ⟨h1, h2⟩ := hc
    obtain rfl : a1 = ⟨#[]⟩ := ba_ext (List.eq_nil_of_length_eq_zero (by rw [Array.length_toList]; exact h2))
    clear h2
    have HT := Lib.hid HT0
    clear HT0
    have HR := Lib.hid hr
    clear hr
    obtain ⟨B, hBB⟩ : ∃ B, B = w.heap.size := ⟨_, rfl⟩
    have HW := Lib.hid (Nat.le_of_eq hBB)
    rw [← hBB]
    have HT := Lib.hid (fun w' (hb : Below B w w') => TabsU.below HT.out (hBB ▸ hb))
    clear hBB
    go_enter Tryd.func61, Tryd.ntmps61
    go_wp2
    go_loopw [0, 5, 6, 7, 8, 11] (fun s rr la z sk v w' => ∃ (p k : Nat) (ri zz : Int) (last : ByteArray) (acc : List UInt8), s = .string (a0.extract p a0.size) ∧ rr = .int .i32 ri ∧ la = .string last ∧ z = .int .i64 zz ∧ sk = .bool false ∧ p ≤ a0.size ∧ Hid (OutSq B v a0 p acc w') ∧ Aside0 (sqGo a0 k p last acc = sqGo a0 a0.size 0 ⟨#[]⟩ []) ∧ Hid (a0.size ≤ p + k) ∧ Hid (acc.length ≤ p) ∧ Hid (B ≤ w'.heap.size) ∧ Hid (Below B w w')) (fun s _ _ _ _ _ _ => match s with | .string q => q.size | _ => 0)
    case atStart => exact ⟨0, a0.size, 0, 0, ⟨#[]⟩, [], by rw [extract_whole], rfl, rfl, rfl, rfl, by omega, Lib.hid (Or.inl ⟨rfl, rfl⟩), ⟨rfl⟩, Lib.hid (by omega), Lib.hid (by simp), HW, Lib.hid (Below.refl _ _)⟩
    case round =>
      obtain ⟨p, k, ri, zz, last, acc, rfl, rfl, rfl, rfl, rfl, hp, hO, hA, hk, hl, hS, hB⟩ := hrel
      by_cases cp : p < a0.size
      · obtain ⟨k, rfl⟩ : ∃ j, k = j + 1 := ⟨k - 1, by have := hk.out; omega⟩
        have hz : (a0.extract p a0.size).size = a0.size - p := by rw [ByteArray.size_extract, Nat.min_self]
        have hlz : ((a0.extract p a0.size).size : Int) > 0 := by rw [hz]; omega
        have hwl := width_le a0 p cp
        have hwp := width_pos a0 p cp
        have hgo := decodeGo_at a0 p cp
        have hC := Lib.hid (show utf8_DecodeRuneInString.f (a0.extract p a0.size) = some (((Utf8.decode a0 p).1 : Int), ((Utf8.decode a0 p).2 : Int)) by unfold utf8_DecodeRuneInString.f; rw [hgo])
        have hst := sqGo_skip a0 k p last acc cp
        have hso := sqGo_put a0 k p last acc cp
        have hx1 := extract_tail a0 p _ hwl
        have hx3 := Lib.hid (show (a0.extract p a0.size).extract (Utf8.decode a0 p).2 (a0.size - p) = a0.extract (p + (Utf8.decode a0 p).2) a0.size by rw [← hx1, hz])
        have hx2 : (a0.extract p a0.size).extract 0 (Utf8.decode a0 p).2 = a0.extract p (p + (Utf8.decode a0 p).2) := by
          rw [ByteArray.extract_extract]
          congr 1
          omega
        have hlen2 : ((Utf8.decode a0 p).2 : Int) ≤ ((a0.extract p a0.size).size : Int) := by rw [hz]; omega
        have hlen3 : (Utf8.decode a0 p).2 ≤ a0.size - p := by omega
        clear hgo hx1
        generalize (Utf8.decode a0 p).2 = d at *
        generalize (Utf8.decode a0 p).1 = ch at *
        have hst' := Aside0.mk hst
        have hso' := Aside0.mk hso
        have hz' := Lib.hid hz
        clear hst hso hz
        have hl4 := Lib.hid (show acc.length + (a0.extract p (p + d)).size ≤ 140737488355328 by rw [ByteArray.size_extract]; have := hl.out; omega)
        have hnx := Lib.hid (show (a0.extract p (p + d)).data.toList = (a0.data.toList.drop p).take d by rw [extract_list, Nat.add_sub_cancel_left])
        have hln := Lib.hid (show (acc ++ (a0.data.toList.drop p).take d).length ≤ p + d by rw [List.length_append, List.length_take]; have := hl.out; omega)
        obtain ⟨pc, hpc⟩ : ∃ pc, pc = a0.extract p (p + d) := ⟨_, rfl⟩
        rw [← hpc] at hx2 hl4 hnx hst' hso'
        clear hpc
        by_cases cE : last.size = 0
        · obtain rfl : last = ⟨#[]⟩ := ba_ext (List.eq_nil_of_length_eq_zero (by rw [Array.length_toList]; exact cE))
          have hAx := Aside0.mk ((hso'.out (fun q => absurd q.1 (by decide))).symm.trans hA.out)
          clear hA hst' hso' cE
          rcases hO.out with ⟨rfl, hacc⟩ | ⟨b, rfl, hF⟩
          · have hacc' := Lib.hid hacc
            clear hO hacc
            go_wp2_with fail
            refine (utf8_DecodeRuneInString.calls _ _ _ _ hC.out (HT.out _ hB.out)).mono ?_
            rintro e w2 ⟨rfl, hb2⟩
            have hB2 := Lib.hid (hB.out.trans (hb2.mono hS.out))
            have hS2 := Lib.hid (Nat.le_trans hS.out hb2.size)
            clear hb2 hB hS
            go_wp2
            go_roundw
            case rel => exact ⟨p + d, k, _, _, pc, _, by rw [hx3.out], rfl, rfl, rfl, rfl, by omega, Lib.hid (Or.inl ⟨rfl, by rw [hacc'.out, ← List.take_add]⟩), hAx, Lib.hid (by have := hk.out; omega), hln, hS2, hB2⟩
            case measure => show ((a0.extract p a0.size).extract d (a0.size - p)).size < (a0.extract p a0.size).size; rw [hx3.out, ByteArray.size_extract, ByteArray.size_extract]; omega
          · have hF' := Lib.hid hF
            clear hO hF
            go_wp2_with fail
            refine (utf8_DecodeRuneInString.calls _ _ _ _ hC.out (HT.out _ hB.out)).mono ?_
            rintro e w2 ⟨rfl, hb2⟩
            have hB2 := Lib.hid (hB.out.trans (hb2.mono hS.out))
            have hS2 := Lib.hid (Nat.le_trans hS.out hb2.size)
            have hF2 := Lib.hid (hF'.out.below hb2)
            clear hb2 hB hS
            go_wp2_with fail
            refine (Builder_WriteString.bld B b _ _ _ hF2.out hl4.out hS2.out).mono ?_
            rintro e w5 ⟨rfl, hf, hb⟩
            have hF5 := Lib.hid (show BF B b (acc ++ (a0.data.toList.drop p).take d) w5 by rw [← hnx.out]; exact hf)
            have hB5 := Lib.hid (hB2.out.trans hb)
            have hS5 := Lib.hid (Nat.le_trans hS2.out hb.size)
            clear hf hb
            go_wp2
            go_roundw
            case rel => exact ⟨p + d, k, _, _, pc, _, by rw [hx3.out], rfl, rfl, rfl, rfl, by omega, Lib.hid (Or.inr ⟨b, rfl, hF5.out⟩), hAx, Lib.hid (by have := hk.out; omega), hln, hS5, hB5⟩
            case measure => show ((a0.extract p a0.size).extract d (a0.size - p)).size < (a0.extract p a0.size).size; rw [hx3.out, ByteArray.size_extract, ByteArray.size_extract]; omega
        · have hneB : (last.toList == []) = false := beq_eq_false_iff_ne.2 (fun q => cE (by rw [show last = ⟨#[]⟩ from toList_inj (q.trans (by decide +kernel))]; rfl))
          by_cases cq : pc = last
          · subst cq
            have hAx := Aside0.mk ((hst'.out ⟨by omega, rfl⟩).symm.trans hA.out)
            clear hA hst' hso' cE
            rcases hO.out with ⟨rfl, hacc⟩ | ⟨b, rfl, hF⟩
            · have hacc' := Lib.hid hacc
              clear hO hacc
              go_wp2_with fail
              refine (utf8_DecodeRuneInString.calls _ _ _ _ hC.out (HT.out _ hB.out)).mono ?_
              rintro e w2 ⟨rfl, hb2⟩
              have hB2 := Lib.hid (hB.out.trans (hb2.mono hS.out))
              have hS2 := Lib.hid (Nat.le_trans hS.out hb2.size)
              clear hb2 hB hS
              go_wp2_with fail
              refine (allocBuffer.bld B _ _ _ (by omega) (by rw [hz'.out]; omega) hS2.out).mono ?_
              rintro e w3 ⟨⟨b, rfl, hf⟩, hb3⟩
              have hF3 := Lib.hid (show BF B b acc w3 by rw [hacc'.out]; rw [hz'.out, show a0.size - (a0.size - p) = p by omega] at hf; exact hf)
              have hB3 := Lib.hid (hB2.out.trans hb3)
              have hS3 := Lib.hid (Nat.le_trans hS2.out hb3.size)
              clear hf hb3 hB2 hS2
              go_wp2
              go_roundw
              case rel => exact ⟨p + d, k, _, _, _, acc, by rw [hx3.out], rfl, rfl, rfl, rfl, by omega, Lib.hid (Or.inr ⟨b, rfl, hF3.out⟩), hAx, Lib.hid (by have := hk.out; omega), Lib.hid (by have := hl.out; omega), hS3, hB3⟩
              case measure => show ((a0.extract p a0.size).extract d (a0.size - p)).size < (a0.extract p a0.size).size; rw [hx3.out, ByteArray.size_extract, ByteArray.size_extract]; omega
            · have hF' := Lib.hid hF
              clear hO hF
              go_wp2_with fail
              refine (utf8_DecodeRuneInString.calls _ _ _ _ hC.out (HT.out _ hB.out)).mono ?_
              rintro e w2 ⟨rfl, hb2⟩
              have hB2 := Lib.hid (hB.out.trans (hb2.mono hS.out))
              have hS2 := Lib.hid (Nat.le_trans hS.out hb2.size)
              have hF2 := Lib.hid (hF'.out.below hb2)
              clear hb2 hB hS
              go_wp2
              go_roundw
              case rel => exact ⟨p + d, k, _, _, _, acc, by rw [hx3.out], rfl, rfl, rfl, rfl, by omega, Lib.hid (Or.inr ⟨b, rfl, hF2.out⟩), hAx, Lib.hid (by have := hk.out; omega), Lib.hid (by have := hl.out; omega), hS2, hB2⟩
              case measure => show ((a0.extract p a0.size).extract d (a0.size - p)).size < (a0.extract p a0.size).size; rw [hx3.out, ByteArray.size_extract, ByteArray.size_extract]; omega
          · have heqB : (pc.toList == last.toList) = false := beq_eq_false_iff_ne.2 (fun q => cq (toList_inj q))
            have hAx := Aside0.mk ((hso'.out (fun q => cq q.2)).symm.trans hA.out)
            clear hA hst' hso' cE cq
            rcases hO.out with ⟨rfl, hacc⟩ | ⟨b, rfl, hF⟩
            · have hacc' := Lib.hid hacc
              clear hO hacc
              go_wp2_with fail
              refine (utf8_DecodeRuneInString.calls _ _ _ _ hC.out (HT.out _ hB.out)).mono ?_
              rintro e w2 ⟨rfl, hb2⟩
              have hB2 := Lib.hid (hB.out.trans (hb2.mono hS.out))
              have hS2 := Lib.hid (Nat.le_trans hS.out hb2.size)
              clear hb2 hB hS
              go_wp2
              go_roundw
              case rel => exact ⟨p + d, k, _, _, pc, _, by rw [hx3.out], rfl, rfl, rfl, rfl, by omega, Lib.hid (Or.inl ⟨rfl, by rw [hacc'.out, ← List.take_add]⟩), hAx, Lib.hid (by have := hk.out; omega), hln, hS2, hB2⟩
              case measure => show ((a0.extract p a0.size).extract d (a0.size - p)).size < (a0.extract p a0.size).size; rw [hx3.out, ByteArray.size_extract, ByteArray.size_extract]; omega
            · have hF' := Lib.hid hF
              clear hO hF
              go_wp2_with fail
              refine (utf8_DecodeRuneInString.calls _ _ _ _ hC.out (HT.out _ hB.out)).mono ?_
              rintro e w2 ⟨rfl, hb2⟩
              have hB2 := Lib.hid (hB.out.trans (hb2.mono hS.out))
              have hS2 := Lib.hid (Nat.le_trans hS.out hb2.size)
              have hF2 := Lib.hid (hF'.out.below hb2)
              clear hb2 hB hS
              go_wp2_with fail
              refine (Builder_WriteString.bld B b _ _ _ hF2.out hl4.out hS2.out).mono ?_
              rintro e w5 ⟨rfl, hf, hb⟩
              have hF5 := Lib.hid (show BF B b (acc ++ (a0.data.toList.drop p).take d) w5 by rw [← hnx.out]; exact hf)
              have hB5 := Lib.hid (hB2.out.trans hb)
              have hS5 := Lib.hid (Nat.le_trans hS2.out hb.size)
              clear hf hb
              go_wp2
              go_roundw
              case rel => exact ⟨p + d, k, _, _, pc, _, by rw [hx3.out], rfl, rfl, rfl, rfl, by omega, Lib.hid (Or.inr ⟨b, rfl, hF5.out⟩), hAx, Lib.hid (by have := hk.out; omega), hln, hS5, hB5⟩
              case measure => show ((a0.extract p a0.size).extract d (a0.size - p)).size < (a0.extract p a0.size).size; rw [hx3.out, ByteArray.size_extract, ByteArray.size_extract]; omega
      · have hz : (a0.extract p a0.size).size = 0 := by rw [ByteArray.size_extract]; omega
        have hlz : ¬ ((a0.extract p a0.size).size : Int) > 0 := by rw [hz]; omega
        have hfin := Lib.hid ((sqGo_end a0 k p last acc cp).symm.trans hA.out)
        clear hA hz
        rcases hO.out with ⟨rfl, hacc⟩ | ⟨b, rfl, hF⟩
        · have hfr := Lib.hid (show a0 = r by
            rw [← HR.out, ← hfin.out, hacc, List.take_of_length_le (by rw [size_list]; omega)])
          clear hO hacc
          go_wp2
          go_ret
          exact ⟨by rw [← hfr.out]; rfl, hB.out⟩
        · have hF' := Lib.hid hF
          clear hO hF
          go_wp2_with fail
          refine (Builder_String.bld B b _ _ hF'.out hS.out).mono ?_
          rintro e w2 ⟨rfl, hf, hb⟩
          have hB2 := Lib.hid (hB.out.trans hb)
          clear hf hb
          go_wp2
          go_ret
          exact ⟨by rw [← HR.out, ← hfin.out]; rfl, hB2.out⟩
  · cases h

end Go.Proofs.YtbcccmoddbmffaaDoor.P
