-- WRITTEN by xprint.py (a program of this session, over the kit's print) out of the translation. Not trusted: Lean checks it.
import Derived.Test.YtbcccmoddbmffaaDoorPx0
import Derived.Test.YtbcccmoddbmffaaDoorPx3
import Derived.Test.YtbcccmoddbmffaaDoorPx17
import Derived.Test.YtbcccmoddbmffaaDoorPx22
import Derived.Test.YtbcccmoddbmffaaDoorPx31
import Derived.Test.YtbcccmoddbmffaaDoorPx34
import Derived.Test.YtbcccmoddbmffaaDoorPx35
namespace Go.Proofs.YtbcccmoddbmffaaDoor.P
open Go.RowKit Go.Proofs.YtbcccmoddbmffaaDoorW.PrintWords Go.Proofs.YtbcccmoddbmffaaDoorW.PrintLast Go.Proofs.YtbcccmoddbmffaaDoorW.PrintMore
attribute [local go_sem] max2_int min2_int max_two min_two max_three min_three max_four min_four   -- for this text's walks alone
set_option linter.unusedVariables false
set_option linter.unusedSimpArgs false

-- GIVEN by hand: function 56 (xstrings_ExpandTabs)
/-! ### xstrings_ExpandTabs: function 56 -/
def WdOk (x : Option Int) : Prop := ∃ v, x = some v ∧ 0 ≤ v ∧ v ≤ 2
theorem WdOk.ite {p : Prop} [Decidable p] {a b : Option Int} (ha : WdOk a) (hb : WdOk b) : WdOk (if p then a else b) := by split <;> assumption
theorem wd_aux (k : Nat) (c : Int) : WdOk (xstrings_RuneWidth.f (k + 4) c) := by
  unfold xstrings_RuneWidth.f
  simp only [xstrings_RuneWidth.j0, xstrings_RuneWidth.j1, xstrings_RuneWidth.j2, xstrings_RuneWidth.j3]
  repeat' apply WdOk.ite
  all_goals exact ⟨_, rfl, by decide, by decide⟩
/-- A character's width. -/
def wd (c : Int) : Int := (xstrings_RuneWidth.f (0 + 4) c).getD 0
theorem wd_some (c : Int) : xstrings_RuneWidth.f (0 + 4) c = some (wd c) ∧ 0 ≤ wd c ∧ wd c ≤ 2 := by
  obtain ⟨v, h, h0, h1⟩ := wd_aux 0 c
  unfold wd
  rw [h]
  exact ⟨rfl, h0, h1⟩
/-- What ExpandTabs writes from place p on, at column col, behind acc. -/
def tabsGo (s : ByteArray) (n : Int) : Nat → Nat → Int → List UInt8 → List UInt8
  | 0, _, _, acc => acc
  | k + 1, p, col, acc => if p < s.size then
      if (Utf8.decode s p).1 = 9 then tabsGo s n k (p + (Utf8.decode s p).2) (col + (n - col % n)) (acc ++ List.replicate (n - col % n).toNat 32)
      else tabsGo s n k (p + (Utf8.decode s p).2) (if (Utf8.decode s p).1 = 10 then 0 else col + wd ((Utf8.decode s p).1 : Int)) (acc ++ (s.data.toList.drop p).take (Utf8.decode s p).2)
    else acc
theorem tabsGo_tab (s : ByteArray) (n : Int) (k p : Nat) (col : Int) (acc : List UInt8) (h : p < s.size) (hc : (Utf8.decode s p).1 = 9) : tabsGo s n (k + 1) p col acc = tabsGo s n k (p + (Utf8.decode s p).2) (col + (n - col % n)) (acc ++ List.replicate (n - col % n).toNat 32) := by
  rw [tabsGo, if_pos h, if_pos hc]
theorem tabsGo_other (s : ByteArray) (n : Int) (k p : Nat) (col : Int) (acc : List UInt8) (h : p < s.size) (hc : ¬ (Utf8.decode s p).1 = 9) : tabsGo s n (k + 1) p col acc = tabsGo s n k (p + (Utf8.decode s p).2) (if (Utf8.decode s p).1 = 10 then 0 else col + wd ((Utf8.decode s p).1 : Int)) (acc ++ (s.data.toList.drop p).take (Utf8.decode s p).2) := by
  rw [tabsGo, if_pos h, if_neg hc]
theorem tabsGo_end (s : ByteArray) (n : Int) (k p : Nat) (col : Int) (acc : List UInt8) (h : ¬ p < s.size) : tabsGo s n k p col acc = acc := by
  cases k with
  | zero => rw [tabsGo]
  | succ k => rw [tabsGo, if_neg h]
def small2 (s : ByteArray) (n : Int) : Bool := decide (s.size ≤ 1048576) && decide (n ≤ 1000000)
def xstrings_ExpandTabs.f (a0 : ByteArray) (a1 : Int) : Option ByteArray := if small2 a0 a1 = true ∧ 0 < a1 then some ⟨(tabsGo a0 a1 a0.size 0 0 []).toArray⟩ else none
theorem xstrings_ExpandTabs.panics (a0 : ByteArray) (a1 : Int) (w : World) (h : a1 ≤ 0) (_ : TabsU w) :
    Calls Tryd.prog 56 #[.string a0, .int .i64 a1] w fun e w' => (∃ u pv, e = .panicked [{ v := .iface u pv, recovered := false }]) ∧ Below w.heap.size w w' := by
  have HB := Lib.hid (Below.refl w.heap.size w)
  go_enter Tryd.func56, Tryd.ntmps56
  go_wp2
  exact And.intro rfl (And.intro ⟨_, _, rfl⟩ HB.out)
/-- Where the output stands: nowhere yet, or in a builder. -/
def OutAt (B : Nat) (v : Value) (s : ByteArray) (p : Nat) (acc : List UInt8) (w : World) : Prop :=
  (v = .pointer none ∧ acc = s.data.toList.take p) ∨ ∃ b, v = .pointer (some ⟨b, 0, none⟩) ∧ BF B b acc w
set_option maxHeartbeats 3200000 in
set_option maxRecDepth 100000 in
theorem xstrings_ExpandTabs.calls (a0 : ByteArray) (a1 : Int) (r : ByteArray) (w : World) (h : xstrings_ExpandTabs.f a0 a1 = some r) (HT0 : TabsU w) :
    Calls Tryd.prog 56 #[.string a0, .int .i64 a1] w fun e w' => e = .returned (.string r) ∧ Below w.heap.size w w' := by
  unfold xstrings_ExpandTabs.f at h
  split at h
  · rename_i hc
    injection h with hr
    simp only [small2, Bool.and_eq_true, decide_eq_true_eq] at hc
    obtain ⟨⟨h1, h2⟩, h3⟩ := hc
    have HT := Lib.hid HT0
    clear HT0
    have HR := Lib.hid hr
    clear hr
    obtain ⟨B, hBB⟩ : ∃ B, B = w.heap.size := ⟨_, rfl⟩
    have HW := Lib.hid (Nat.le_of_eq hBB)
    rw [← hBB]
    have HT := Lib.hid (fun w' (hb : Below B w w') => TabsU.below HT.out (hBB ▸ hb))
    clear hBB
    go_enter Tryd.func56, Tryd.ntmps56
    go_wp2
    go_loopw [0, 5, 6, 7, 8, 9, 10] (fun s rr i z c x v w' => ∃ (p k : Nat) (ri ii zz col xx : Int) (acc : List UInt8), s = .string (a0.extract p a0.size) ∧ rr = .int .i32 ri ∧ i = .int .i64 ii ∧ z = .int .i64 zz ∧ c = .int .i64 col ∧ x = .int .i64 xx ∧ p ≤ a0.size ∧ 0 ≤ col ∧ col ≤ 1048577 * (p : Int) ∧ Hid (OutAt B v a0 p acc w') ∧ Aside0 (tabsGo a0 a1 k p col acc = tabsGo a0 a1 a0.size 0 0 []) ∧ Hid (a0.size ≤ p + k) ∧ Hid (acc.length ≤ 1048577 * p) ∧ Hid (B ≤ w'.heap.size) ∧ Hid (Below B w w')) (fun s _ _ _ _ _ _ _ => match s with | .string q => q.size | _ => 0)
    case atStart => exact ⟨0, a0.size, 0, 0, 0, 0, 0, [], by rw [extract_whole], rfl, rfl, rfl, rfl, rfl, by omega, by omega, by omega, Lib.hid (Or.inl ⟨rfl, rfl⟩), ⟨rfl⟩, Lib.hid (by omega), Lib.hid (by simp), HW, Lib.hid (Below.refl _ _)⟩
    case round =>
      obtain ⟨p, k, ri, ii, zz, col, xx, acc, rfl, rfl, rfl, rfl, rfl, rfl, hp, hc0, hc1, hO, hA, hk, hl, hS, hB⟩ := hrel
      by_cases cp : p < a0.size
      · obtain ⟨k, rfl⟩ : ∃ j, k = j + 1 := ⟨k - 1, by have := hk.out; omega⟩
        have hz : (a0.extract p a0.size).size = a0.size - p := by rw [ByteArray.size_extract, Nat.min_self]
        have hlz : ((a0.extract p a0.size).size : Int) > 0 := by rw [hz]; omega
        have hwl := width_le a0 p cp
        have hwp := width_pos a0 p cp
        have hgo := decodeGo_at a0 p cp
        have hC := Lib.hid (show utf8_DecodeRuneInString.f (a0.extract p a0.size) = some (((Utf8.decode a0 p).1 : Int), ((Utf8.decode a0 p).2 : Int)) by unfold utf8_DecodeRuneInString.f; rw [hgo])
        have hst := tabsGo_tab a0 a1 k p col acc cp
        have hso := tabsGo_other a0 a1 k p col acc cp
        have hx1 := extract_tail a0 p _ hwl
        have hx3 := Lib.hid (show (a0.extract p a0.size).extract (Utf8.decode a0 p).2 (a0.size - p) = a0.extract (p + (Utf8.decode a0 p).2) a0.size by rw [← hx1, hz])
        have hx2 : (a0.extract p a0.size).extract 0 (Utf8.decode a0 p).2 = a0.extract p (p + (Utf8.decode a0 p).2) := by
          rw [ByteArray.extract_extract]
          congr 1
          omega
        have hlen2 : ((Utf8.decode a0 p).2 : Int) ≤ ((a0.extract p a0.size).size : Int) := by rw [hz]; omega
        have hlen3 : (Utf8.decode a0 p).2 ≤ a0.size - p := by omega
        clear hgo hx1
        generalize (Utf8.decode a0 p).2 = d at *
        generalize (Utf8.decode a0 p).1 = ch at *
        have hst' := Aside0.mk hst
        have hso' := Aside0.mk hso
        have hx2' := Lib.hid hx2
        have hz' := Lib.hid hz
        have hlz' := Lib.hid hlz
        clear hst hso hx2 hz
        by_cases c9 : ch = 9
        · subst c9
          have hAx := Aside0.mk ((hst'.out rfl).symm.trans hA.out)
          clear hA hst' hso'
          have he0 := Int.emod_nonneg col (show a1 ≠ 0 by omega)
          have he1 := Int.emod_lt_of_pos col h3
          obtain ⟨E, hE⟩ : ∃ E : Nat, a1 - col % a1 = (E : Int) := ⟨(a1 - col % a1).toNat, by omega⟩
          have hE1 : E ≤ 1000000 := by omega
          rw [hE, Int.toNat_natCast] at hAx
          have hK := Lib.hid hE
          have hlE := Lib.hid (show acc.length + E ≤ 1048577 * (p + d) by have := hl.out; omega)
          have hcE : col + (E : Int) ≤ 1048577 * ((p + d : Nat) : Int) := by omega
          rcases hO.out with ⟨rfl, hacc⟩ | ⟨b, rfl, hF⟩
          · have hacc' := Lib.hid hacc
            clear hO hacc he0 he1
            go_wp2_with fail
            refine (utf8_DecodeRuneInString.calls _ _ _ _ hC.out (HT.out _ hB.out)).mono ?_
            rintro e w2 ⟨rfl, hb2⟩
            have hB2 := Lib.hid (hB.out.trans (hb2.mono hS.out))
            have hS2 := Lib.hid (Nat.le_trans hS.out hb2.size)
            clear hb2 hB hS
            go_wp2_with fail
            refine (allocBuffer.bld B _ _ _ (by omega) (by rw [hz'.out]; omega) hS2.out).mono ?_
            rintro e w3 ⟨⟨b, rfl, hf⟩, hb3⟩
            have hF3 := Lib.hid (show BF B b acc w3 by rw [hacc'.out]; rw [hz'.out, show a0.size - (a0.size - p) = p by omega] at hf; exact hf)
            have hB3 := Lib.hid (hB2.out.trans hb3)
            have hS3 := Lib.hid (Nat.le_trans hS2.out hb3.size)
            clear hf hb3 hB2 hS2
            go_wp2_with fail
            go_loopw [6] (fun i w' => ∃ j : Nat, i = .int .i64 j ∧ j ≤ E ∧ Hid (BF B b (acc ++ List.replicate j 32) w') ∧ Hid (Below B w w') ∧ Hid (B ≤ w'.heap.size)) (fun i _ => E - (intOf i).toNat)
            case atStart => exact ⟨0, rfl, by omega, Lib.hid (by rw [List.replicate_zero, List.append_nil]; exact hF3.out), hB3, hS3⟩
            case round =>
              clear hF3 hB3 hS3
              obtain ⟨j, rfl, hj, hF, hB, hS⟩ := hrel
              by_cases cj : j < E
              · have hnx := Lib.hid (show acc ++ List.replicate (j + 1) 32 = (acc ++ List.replicate j 32) ++ Lib.encodeRune 32 by rw [List.replicate_succ', List.append_assoc]; rfl)
                have hl4 := Lib.hid (show (acc ++ List.replicate j (32 : UInt8)).length + 4 ≤ 140737488355328 by rw [List.length_append, List.length_replicate]; have := hlE.out; omega)
                go_wp2_with fail
                refine (Builder_WriteRune.bld B b _ 32 (by omega) (by omega) _ hF.out hl4.out hS.out).mono ?_
                rintro e w5 ⟨⟨z, rfl⟩, hf, hb⟩
                have hF5 := Lib.hid hf
                have hB5 := Lib.hid (hB.out.trans hb)
                have hS5 := Lib.hid (Nat.le_trans hS.out hb.size)
                clear hf hb hF hB hS
                go_wp2
                go_roundw
                case rel => exact ⟨j + 1, by go_num, by omega, Lib.hid (by rw [hnx.out]; exact hF5.out), hB5, hS5⟩
                case measure => simp [intOf]; omega
              · have hjE : j = E := by omega
                subst hjE
                go_wp2
                go_roundw
                case rel => exact ⟨p + d, k, _, _, _, _, _, _, by rw [hx3.out], rfl, rfl, rfl, rfl, rfl, by omega, by omega, hcE, Lib.hid (Or.inr ⟨b, rfl, hF.out⟩), hAx, Lib.hid (by have := hk.out; omega), Lib.hid (by rw [List.length_append, List.length_replicate]; exact hlE.out), hS, hB⟩
                case measure => show ((a0.extract p a0.size).extract d (a0.size - p)).size < (a0.extract p a0.size).size; rw [hx3.out, ByteArray.size_extract, ByteArray.size_extract]; omega
          · have hF' := Lib.hid hF
            clear hO hF he0 he1
            go_wp2_with fail
            refine (utf8_DecodeRuneInString.calls _ _ _ _ hC.out (HT.out _ hB.out)).mono ?_
            rintro e w2 ⟨rfl, hb2⟩
            have hF3 := Lib.hid (hF'.out.below hb2)
            have hB3 := Lib.hid (hB.out.trans (hb2.mono hS.out))
            have hS3 := Lib.hid (Nat.le_trans hS.out hb2.size)
            clear hb2 hB hS hF'
            go_wp2_with fail
            go_loopw [6] (fun i w' => ∃ j : Nat, i = .int .i64 j ∧ j ≤ E ∧ Hid (BF B b (acc ++ List.replicate j 32) w') ∧ Hid (Below B w w') ∧ Hid (B ≤ w'.heap.size)) (fun i _ => E - (intOf i).toNat)
            case atStart => exact ⟨0, rfl, by omega, Lib.hid (by rw [List.replicate_zero, List.append_nil]; exact hF3.out), hB3, hS3⟩
            case round =>
              clear hF3 hB3 hS3
              obtain ⟨j, rfl, hj, hF, hB, hS⟩ := hrel
              by_cases cj : j < E
              · have hnx := Lib.hid (show acc ++ List.replicate (j + 1) 32 = (acc ++ List.replicate j 32) ++ Lib.encodeRune 32 by rw [List.replicate_succ', List.append_assoc]; rfl)
                have hl4 := Lib.hid (show (acc ++ List.replicate j (32 : UInt8)).length + 4 ≤ 140737488355328 by rw [List.length_append, List.length_replicate]; have := hlE.out; omega)
                go_wp2_with fail
                refine (Builder_WriteRune.bld B b _ 32 (by omega) (by omega) _ hF.out hl4.out hS.out).mono ?_
                rintro e w5 ⟨⟨z, rfl⟩, hf, hb⟩
                have hF5 := Lib.hid hf
                have hB5 := Lib.hid (hB.out.trans hb)
                have hS5 := Lib.hid (Nat.le_trans hS.out hb.size)
                clear hf hb hF hB hS
                go_wp2
                go_roundw
                case rel => exact ⟨j + 1, by go_num, by omega, Lib.hid (by rw [hnx.out]; exact hF5.out), hB5, hS5⟩
                case measure => simp [intOf]; omega
              · have hjE : j = E := by omega
                subst hjE
                go_wp2
                go_roundw
                case rel => exact ⟨p + d, k, _, _, _, _, _, _, by rw [hx3.out], rfl, rfl, rfl, rfl, rfl, by omega, by omega, hcE, Lib.hid (Or.inr ⟨b, rfl, hF.out⟩), hAx, Lib.hid (by have := hk.out; omega), Lib.hid (by rw [List.length_append, List.length_replicate]; exact hlE.out), hS, hB⟩
                case measure => show ((a0.extract p a0.size).extract d (a0.size - p)).size < (a0.extract p a0.size).size; rw [hx3.out, ByteArray.size_extract, ByteArray.size_extract]; omega
        · have c9b : ((ch : Int) == 9) = false := by simpa using (show ¬ (ch : Int) = 9 by omega)
          have hAx := Aside0.mk ((hso'.out c9).symm.trans hA.out)
          clear hA hst' hso'
          obtain ⟨hwd, hwd0, hwd2⟩ := wd_some (ch : Int)
          have hW := Lib.hid hwd
          clear hwd
          generalize wd (ch : Int) = wi at *
          have hx2 := hx2'.out
          have hl4 := Lib.hid (show acc.length + (a0.extract p (p + d)).size ≤ 140737488355328 by rw [ByteArray.size_extract]; have := hl.out; omega)
          have hnx := Lib.hid (show (a0.extract p (p + d)).data.toList = (a0.data.toList.drop p).take d by rw [extract_list, Nat.add_sub_cancel_left])
          have hln := Lib.hid (show (acc ++ (a0.data.toList.drop p).take d).length ≤ 1048577 * (p + d) by rw [List.length_append, List.length_take]; have := hl.out; omega)
          by_cases c10 : ch = 10
          · subst c10
            rw [if_pos rfl] at hAx
            clear c9 c9b
            have hc10 : (0 : Int) ≤ 1048577 * ((p + d : Nat) : Int) := by omega
            rcases hO.out with ⟨rfl, hacc⟩ | ⟨b, rfl, hF⟩
            · have hacc' := Lib.hid hacc
              clear hO hacc hx2
              go_wp2_with fail
              refine (utf8_DecodeRuneInString.calls _ _ _ _ hC.out (HT.out _ hB.out)).mono ?_
              rintro e w2 ⟨rfl, hb2⟩
              have hB2 := Lib.hid (hB.out.trans (hb2.mono hS.out))
              have hS2 := Lib.hid (Nat.le_trans hS.out hb2.size)
              clear hb2 hB hS
              go_wp2
              go_roundw
              case rel => exact ⟨p + d, k, _, _, _, _, _, _, by rw [hx3.out], rfl, rfl, rfl, rfl, rfl, by omega, by omega, hc10, Lib.hid (Or.inl ⟨rfl, by rw [hacc'.out, ← List.take_add]⟩), hAx, Lib.hid (by have := hk.out; omega), hln, hS2, hB2⟩
              case measure => show ((a0.extract p a0.size).extract d (a0.size - p)).size < (a0.extract p a0.size).size; rw [hx3.out, ByteArray.size_extract, ByteArray.size_extract]; omega
            · have hF' := Lib.hid hF
              clear hO hF
              go_wp2_with fail
              refine (utf8_DecodeRuneInString.calls _ _ _ _ hC.out (HT.out _ hB.out)).mono ?_
              rintro e w2 ⟨rfl, hb2⟩
              have hF2 := Lib.hid (hF'.out.below hb2)
              have hB2 := Lib.hid (hB.out.trans (hb2.mono hS.out))
              have hS2 := Lib.hid (Nat.le_trans hS.out hb2.size)
              clear hb2 hB hS
              go_wp2_with fail
              refine (Builder_WriteString.bld B b _ _ _ hF2.out hl4.out hS2.out).mono ?_
              rintro e w5 ⟨rfl, hf, hb⟩
              have hF5 := Lib.hid (show BF B b (acc ++ (a0.data.toList.drop p).take d) w5 by rw [← hnx.out]; exact hf)
              have hB5 := Lib.hid (hB2.out.trans hb)
              have hS5 := Lib.hid (Nat.le_trans hS2.out hb.size)
              clear hf hb
              go_wp2
              go_roundw
              case rel => exact ⟨p + d, k, _, _, _, _, _, _, by rw [hx3.out], rfl, rfl, rfl, rfl, rfl, by omega, by omega, hc10, Lib.hid (Or.inr ⟨b, rfl, hF5.out⟩), hAx, Lib.hid (by have := hk.out; omega), hln, hS5, hB5⟩
              case measure => show ((a0.extract p a0.size).extract d (a0.size - p)).size < (a0.extract p a0.size).size; rw [hx3.out, ByteArray.size_extract, ByteArray.size_extract]; omega
          · have c10b : ((ch : Int) == 10) = false := by simpa using (show ¬ (ch : Int) = 10 by omega)
            rw [if_neg c10] at hAx
            have hcw : col + wi ≤ 1048577 * ((p + d : Nat) : Int) := by omega
            have hcw0 : 0 ≤ col + wi := by omega
            rcases hO.out with ⟨rfl, hacc⟩ | ⟨b, rfl, hF⟩
            · have hacc' := Lib.hid hacc
              clear hO hacc hx2
              go_wp2_with fail
              refine (utf8_DecodeRuneInString.calls _ _ _ _ hC.out (HT.out _ hB.out)).mono ?_
              rintro e w2 ⟨rfl, hb2⟩
              have hB2 := Lib.hid (hB.out.trans (hb2.mono hS.out))
              have hS2 := Lib.hid (Nat.le_trans hS.out hb2.size)
              clear hb2 hB hS
              go_wp2_with fail
              refine (xstrings_RuneWidth.calls (0 + 4) _ _ _ hW.out).mono ?_
              rintro e w3 ⟨rfl, hb3⟩
              have hb3' := Lib.hid (Drawn0.below hb3)
              clear hb3
              have hB3 := Lib.hid (hB2.out.trans (hb3'.out.mono hS2.out))
              have hS3 := Lib.hid (Nat.le_trans hS2.out hb3'.out.size)
              clear hb3' hB2 hS2
              go_wp2
              go_roundw
              case rel => exact ⟨p + d, k, _, _, _, _, _, _, by rw [hx3.out], rfl, rfl, rfl, rfl, rfl, by omega, hcw0, hcw, Lib.hid (Or.inl ⟨rfl, by rw [hacc'.out, ← List.take_add]⟩), hAx, Lib.hid (by have := hk.out; omega), hln, hS3, hB3⟩
              case measure => show ((a0.extract p a0.size).extract d (a0.size - p)).size < (a0.extract p a0.size).size; rw [hx3.out, ByteArray.size_extract, ByteArray.size_extract]; omega
            · have hF' := Lib.hid hF
              clear hO hF
              go_wp2_with fail
              refine (utf8_DecodeRuneInString.calls _ _ _ _ hC.out (HT.out _ hB.out)).mono ?_
              rintro e w2 ⟨rfl, hb2⟩
              have hF2 := Lib.hid (hF'.out.below hb2)
              have hB2 := Lib.hid (hB.out.trans (hb2.mono hS.out))
              have hS2 := Lib.hid (Nat.le_trans hS.out hb2.size)
              clear hb2 hB hS
              go_wp2_with fail
              refine (xstrings_RuneWidth.calls (0 + 4) _ _ _ hW.out).mono ?_
              rintro e w3 ⟨rfl, hb3⟩
              have hb3' := Lib.hid (Drawn0.below hb3)
              clear hb3
              have hF3 := Lib.hid (hF2.out.below hb3'.out)
              have hB3 := Lib.hid (hB2.out.trans (hb3'.out.mono hS2.out))
              have hS3 := Lib.hid (Nat.le_trans hS2.out hb3'.out.size)
              clear hb3' hB2 hS2
              go_wp2_with fail
              refine (Builder_WriteString.bld B b _ _ _ hF3.out hl4.out hS3.out).mono ?_
              rintro e w5 ⟨rfl, hf, hb⟩
              have hF5 := Lib.hid (show BF B b (acc ++ (a0.data.toList.drop p).take d) w5 by rw [← hnx.out]; exact hf)
              have hB5 := Lib.hid (hB3.out.trans hb)
              have hS5 := Lib.hid (Nat.le_trans hS3.out hb.size)
              clear hf hb
              go_wp2
              go_roundw
              case rel => exact ⟨p + d, k, _, _, _, _, _, _, by rw [hx3.out], rfl, rfl, rfl, rfl, rfl, by omega, hcw0, hcw, Lib.hid (Or.inr ⟨b, rfl, hF5.out⟩), hAx, Lib.hid (by have := hk.out; omega), hln, hS5, hB5⟩
              case measure => show ((a0.extract p a0.size).extract d (a0.size - p)).size < (a0.extract p a0.size).size; rw [hx3.out, ByteArray.size_extract, ByteArray.size_extract]; omega
      · have hz : (a0.extract p a0.size).size = 0 := by rw [ByteArray.size_extract]; omega
        have hlz : ¬ ((a0.extract p a0.size).size : Int) > 0 := by rw [hz]; omega
        have hfin := Lib.hid ((tabsGo_end a0 a1 k p col acc cp).symm.trans hA.out)
        clear hA hz
        rcases hO.out with ⟨rfl, hacc⟩ | ⟨b, rfl, hF⟩
        · have hfr := Lib.hid (show a0 = r by
            rw [← HR.out, ← hfin.out, hacc, List.take_of_length_le (by rw [size_list]; omega)])
          clear hO hacc
          go_wp2
          go_ret
          exact ⟨by rw [← hfr.out]; rfl, hB.out⟩
        · have hF' := Lib.hid hF
          clear hO hF
          go_wp2_with fail
          refine (Builder_String.bld B b _ _ hF'.out hS.out).mono ?_
          rintro e w2 ⟨rfl, hf, hb⟩
          have hB2 := Lib.hid (hB.out.trans hb)
          clear hf hb
          go_wp2
          go_ret
          exact ⟨by rw [← HR.out, ← hfin.out]; rfl, hB2.out⟩
  · cases h

end Go.Proofs.YtbcccmoddbmffaaDoor.P
