/- spec.Uncapitalized, spec.InitialsBy of a text of ASCII, no separators given. -/
import Derived.Test.YtjpibaehpmkdmaaDoorW2
import Derived.Laws.DeepStrings4
set_option linter.unusedVariables false
set_option linter.unusedSimpArgs false
namespace Go.Proofs.YtjpibaehpmkdmaaDoor.P
open Go.RowKit Go.Proofs.YtjpibaehpmkdmaaDoorW.PrintWords Go.Proofs.YtjpibaehpmkdmaaDoorW.PrintLast Go.Proofs.YtjpibaehpmkdmaaDoorW.PrintMore
def loB (x : Int) : Int := if 65 ≤ x ∧ x ≤ 90 then x + 32 else x
def spec_Lower.f (a0 : ByteArray) : Option ByteArray := if a0.size ≤ 70368744177664 then some (strOfNums ((nums8 a0).map loB)) else none
set_option maxHeartbeats 800000 in
set_option maxRecDepth 100000 in
theorem spec_Lower.calls (a0 : ByteArray) (r : ByteArray) (w : World) (h : spec_Lower.f a0 = some r) :
    Calls Tryd.prog 37 #[.string a0] w fun e w' => e = .returned (.string r) ∧ Below w.heap.size w w' := by
  have hsz : a0.size ≤ 70368744177664 := by
    unfold spec_Lower.f at h
    split at h
    · assumption
    · cases h
  have hr : strOfNums ((nums8 a0).map loB) = r := by
    unfold spec_Lower.f at h
    rw [if_pos hsz] at h
    exact Option.some.inj h
  clear h
  subst hr
  have hcv := fun W => run_bytes (P := Tryd.prog) (src := 9) (dst := 64) (e := 5) Tryd.underlying9 Tryd.underlying64 Tryd.underlying5 a0 W
  have HB0 := Lib.hid (bytes_below (Below.refl w.heap.size w) (Nat.le_refl _) 5 a0)
  go_enter Tryd.func37, Tryd.ntmps37
  have hrow := NumRow.of_bytes w 5 a0
  have hl8 := nums8_length a0
  obtain ⟨W, hW⟩ : ∃ W, W = Lib.bytesWorld w 5 a0 := ⟨_, rfl⟩
  have hcw := hcv w
  clear hcv
  rw [← hW] at hcw hrow HB0
  clear hW
  go_wp2
  go_loopw [9] (fun i w' => ∃ j : Nat, i = .int .i64 j ∧ j ≤ a0.size ∧ Hid (NumRow .u8 w' w.heap.size 5 (halfMap loB (nums8 a0) j)) ∧ Hid (Below w.heap.size w w')) (fun i _ => a0.size - (intOf i).toNat)
  case atStart => exact ⟨0, rfl, by omega, by rw [halfMap_zero]; exact Lib.hid hrow, HB0⟩
  case round =>
    obtain ⟨j, rfl, hj, hR, hB⟩ := hrel
    by_cases hlt : j < a0.size
    · have hlx : j < (nums8 a0).length := by omega
      have hly : j < (halfMap loB (nums8 a0) j).length := by rw [halfMap_length _ _ _ (by omega)]; exact hlx
      have hc := hR.out.cell hly
      have hf := hR.out.free hly
      rw [halfMap_at loB _ hlx] at hc
      have hnx := halfMap_next loB (nums8 a0) hlx
      have hsm := halfMap_same loB (nums8 a0) hlx
      have hx0 : 0 ≤ (nums8 a0).getD j 0 ∧ (nums8 a0).getD j 0 ≤ 255 := by
        rw [List.getD_eq_getElem?_getD, List.getElem?_eq_getElem hlx]
        exact nums8_mem a0 _ (List.getElem_mem hlx)
      have hR2 := hR.out.set hly (loB ((nums8 a0).getD j 0))
      rw [← hnx] at hR2
      generalize (nums8 a0).getD j 0 = x at *
      obtain ⟨x0, x1⟩ := hx0
      have hR2' := Lib.hid hR2
      clear hR2 hnx
      by_cases c1 : 65 ≤ x
      · by_cases c2 : x ≤ 90
        · have hu : loB x = x + 32 := if_pos ⟨c1, c2⟩
          rw [hu] at hR2'
          clear hsm
          go_wp2
          go_roundw
          case rel => exact ⟨j + 1, by go_num, by omega, hR2', Lib.hid (hB.out.setCell (Nat.le_refl _) _)⟩
          case measure => simp [intOf]; omega
        · have hu : loB x = x := if_neg (fun h => c2 h.2)
          have hs := hsm hu
          rw [← hs] at hR
          clear hsm hs hR2'
          go_wp2
          go_roundw
          case rel => exact ⟨j + 1, by go_num, by omega, hR, hB⟩
          case measure => simp [intOf]; omega
      · have hu : loB x = x := if_neg (fun h => c1 h.1)
        have hs := hsm hu
        rw [← hs] at hR
        clear hsm hs hR2'
        go_wp2
        go_roundw
        case rel => exact ⟨j + 1, by go_num, by omega, hR, hB⟩
        case measure => simp [intOf]; omega
    · have hall := halfMap_all loB (nums8 a0) (j := j) (by omega)
      rw [hall] at hR
      have hst := hR.out.string (P := Tryd.prog) (cap := grownCap w a0.size 0 5) (src := 64) (dst := 9) Tryd.underlying64 Tryd.underlying5 Tryd.underlying9 (n := a0.size) (by rw [List.length_map, nums8_length])
      clear hall
      go_wp2
      go_ret
      exact ⟨rfl, hB.out⟩

theorem txI_append (a b : List Int) : txI a ++ txI b = txI (a ++ b) := by
  apply ba_ext
  rw [append_list, txI_list, txI_list, txI_list, List.map_append]
theorem txI_size (a : List Int) : (txI a).size = a.length := by
  show (a.map fun x => UInt8.ofNat x.toNat).toArray.size = _
  rw [List.size_toArray, List.length_map]
theorem one_text {s : ByteArray} {k : Nat} (h : k < s.size) : s.extract k (k + 1) = txI [(((s[k]'h).toNat : Nat) : Int)] := by
  apply ba_ext
  rw [extract_list, txI_list]
  have hl : k < s.data.toList.length := by rw [Array.length_toList]; exact h
  rw [List.drop_eq_getElem_cons hl, show k + 1 - k = 1 by omega]
  simp
  rfl
theorem nums8_one {n : Int} (h0 : 0 ≤ n) (h1 : n < 128) : nums8 (txI [n]) = [n] := by
  unfold nums8
  rw [txI_list]
  simp
  omega
theorem lower_one (n : Int) (w : World) (h0 : 0 ≤ n) (h1 : n < 128) : Calls Tryd.prog 37 #[.string (txI [n])] w fun e w' => e = .returned (.string (txI [Lib.toLowerR n])) ∧ Below w.heap.size w w' := by
  refine spec_Lower.calls (txI [n]) (txI [Lib.toLowerR n]) w ?_
  unfold spec_Lower.f
  rw [if_pos (by rw [txI_size]; show 1 ≤ _; decide), nums8_one h0 h1]
  rfl
theorem same_call (t : ByteArray) (w : World) : Calls Tryd.prog 35 #[.string t] w fun e w' => e = .returned (.string t) ∧ w' = w := by
  go_enter Tryd.func35, Tryd.ntmps35
  go_wp2
  go_ret
  exact ⟨rfl, rfl⟩
set_option maxHeartbeats 1600000 in
set_option maxRecDepth 100000 in
theorem first_call (s : ByteArray) (ha : ascii s) (hs : s.size ≤ 500) (w : World) :
    Calls Tryd.prog 33 #[.string s, .string ⟨#[]⟩, .func (.func 37) #[] #[], .func (.func 35) #[] #[]] w fun e w' => e = .returned (.string (txI (capK (nums8 s) s.size).1)) ∧ Below w.heap.size w w' := by
  have HR8 := Lib.hid (ascii_mem ha)
  have HLN := Lib.hid (nums8_length s)
  have HAT := Lib.hid (show ∀ (i : Nat) (h : i < s.size), (nums8 s)[i]? = some (((s[i]'h).toNat : Nat) : Int) from fun i h => by rw [List.getElem?_eq_getElem (by rw [nums8_length]; exact h), nums8_at s i h, bt_nat s i h])
  obtain ⟨L, hL⟩ : ∃ L, L = nums8 s := ⟨_, rfl⟩
  obtain ⟨N, hN⟩ : ∃ N, N = s.size := ⟨_, rfl⟩
  have hN5 : N ≤ 500 := by rw [hN]; exact hs
  have HNS := Lib.hid hN
  rw [← hN, ← hL] at HLN
  rw [← hL] at HR8 HAT
  rw [← hN, ← hL]
  have HB := Lib.hid (Below.refl w.heap.size w)
  clear hL hN ha hs
  go_enter Tryd.func33, Tryd.ntmps33
  go_wp2
  go_loopw [9, 10, 11, 12, 15] (fun t f y o i wr => ∃ (k : Nat) (yv ov : Value), t = .string (txI (capK L k).1) ∧ f = .bool (capK L k).2 ∧ yv = y ∧ ov = o ∧ i = .int .i64 k ∧ k ≤ N ∧ Hid (Below w.heap.size w wr)) (fun _ _ _ _ i _ => N - (intOf i).toNat)
  case atStart => exact ⟨0, _, _, rfl, rfl, rfl, rfl, rfl, Nat.zero_le _, HB⟩
  case round =>
    clear HB
    obtain ⟨k, yv, ov, rfl, rfl, rfl, rfl, rfl, hk, hB⟩ := hrel
    by_cases ck : k < N
    · have hks : k < s.size := by rw [← HNS.out]; exact ck
      obtain ⟨n, n0, n1, hr, hst⟩ : ∃ n, 0 ≤ n ∧ n < 128 ∧ (((s[k]'hks).toNat : Nat) : Int) = n ∧ capK L (k + 1) = capSt (capK L k) n := by
        have hkl : k < L.length := by rw [HLN.out]; exact ck
        have h1 := HR8.out L[k] (List.getElem_mem hkl)
        have h2 := HAT.out k hks
        rw [List.getElem?_eq_getElem hkl] at h2
        injection h2 with h2
        exact ⟨L[k], h1.1, h1.2, h2.symm, capK_succ hkl⟩
      have hex : s.extract k (k + 1) = txI [n] := by rw [one_text hks, hr]
      have HHR := Lib.hid hr
      have HEX := Lib.hid hex
      have HI := Lib.hid (fun W => between_call n W n0 n1)
      have hzz : (txI (capK L k).1).size = k := by rw [txI_size]; exact capK_len (by rw [HLN.out]; exact hk)
      have z1 : (txI [n]).size = 1 := txI_size _
      have z2 : (txI [Lib.toLowerR n]).size = 1 := txI_size _
      have a1 : (txI (capK L k).1).size + (txI [n]).size ≤ 9223372036854775807 := by omega
      have a2 : (txI (capK L k).1).size + (txI [Lib.toLowerR n]).size ≤ 9223372036854775807 := by omega
      have HLO := Lib.hid (fun W => lower_one n W n0 n1)
      have HSA := Lib.hid (fun W => same_call (txI [n]) W)
      have HT1 := Lib.hid (txI_append (capK L k).1 [n])
      have HT2 := Lib.hid (txI_append (capK L k).1 [Lib.toLowerR n])
      clear hr hex hzz z1 z2
      have s1 : k + 1 ≤ s.size := by omega
      have hsl : ∀ W : World, (Instr.slice 9 (.string s) (some (.int .i64 (k : Int))) (some (.int .i64 ((k : Int) + 1))) none).run Tryd.prog W = .ok (.string (txI [n])) W := fun W => by
        rw [run_slice_string_if W 9 s .i64 .i64 (k : Int) ((k : Int) + 1) Tryd.underlying9, if_pos (by omega), if_pos (by omega), ← HEX.out]
        rfl
      clear HEX
      cases hsx : Lib.isSpaceL n with
      | true =>
        have HC1 := Lib.hid (show capK L (k + 1) = ((capK L k).1 ++ [n], true) by rw [hst]; unfold capSt; rw [hsx]; rfl)
        rw [hsx] at HI
        clear hst HLO HSA HT2 a2
        go_wp2_with fail
        rw [HHR.out]
        refine (HI.out _).mono ?_
        rintro e w2 ⟨rfl, rfl⟩
        clear HI HHR
        go_wp2
        go_roundw
        case rel => exact ⟨k + 1, _, _, by rw [HC1.out]; exact congrArg Value.string HT1.out, by rw [HC1.out], rfl, rfl, by go_num, by omega, hB⟩
        case measure => simp [intOf]; omega
      | false =>
        rw [hsx] at HI
        cases hf : (capK L k).2 with
        | true =>
          have HC1 := Lib.hid (show capK L (k + 1) = ((capK L k).1 ++ [Lib.toLowerR n], false) by rw [hst]; unfold capSt; rw [hsx, hf]; rfl)
          have HBT := Lib.hid (fun (W : World) (h : Below wr.heap.size wr W) => hB.out.trans (h.mono hB.out.size))
          clear hst HSA HT1 a1
          go_wp2_with fail
          rw [HHR.out]
          refine (HI.out _).mono ?_
          rintro e w2 ⟨rfl, rfl⟩
          clear HI HHR
          go_wp2_with fail
          refine (HLO.out _).mono ?_
          rintro e w3 ⟨rfl, hb3⟩
          have HB3 := Lib.hid (HBT.out w3 hb3)
          clear hb3 HLO HBT hB
          go_wp2
          go_roundw
          case rel => exact ⟨k + 1, _, _, by rw [HC1.out]; exact congrArg Value.string HT2.out, by rw [HC1.out], rfl, rfl, by go_num, by omega, HB3⟩
          case measure => simp [intOf]; omega
        | false =>
          have HC1 := Lib.hid (show capK L (k + 1) = ((capK L k).1 ++ [n], false) by rw [hst]; unfold capSt; rw [hsx, hf]; rfl)
          clear hst HLO HT2 a2
          go_wp2_with fail
          rw [HHR.out]
          refine (HI.out _).mono ?_
          rintro e w2 ⟨rfl, rfl⟩
          clear HI HHR
          go_wp2_with fail
          refine (HSA.out _).mono ?_
          rintro e w3 ⟨rfl, rfl⟩
          clear HSA
          go_wp2
          go_roundw
          case rel => exact ⟨k + 1, _, _, by rw [HC1.out]; exact congrArg Value.string HT1.out, by rw [HC1.out], rfl, rfl, by go_num, by omega, hB⟩
          case measure => simp [intOf]; omega
    · obtain rfl : k = N := by omega
      have hge : ¬ (k < s.size) := by rw [← HNS.out]; omega
      go_wp2
      go_ret
      exact ⟨rfl, hB.out⟩
set_option maxHeartbeats 1600000 in
set_option maxRecDepth 100000 in
theorem uncapitalized_call (s : ByteArray) (ha : ascii s) (hs : s.size ≤ 500) (w : World) :
    Calls Tryd.prog 13 #[.string s, .string ⟨#[]⟩] w fun e w' => e = .returned (.string (txI (capK (nums8 s) s.size).1)) ∧ Below w.heap.size w w' := by
  have HC := Lib.hid (first_call s ha hs w)
  generalize txI (capK (nums8 s) s.size).1 = r at *
  go_enter Tryd.func13, Tryd.ntmps13
  go_wp2_with fail
  refine HC.out.mono ?_
  rintro e w1 ⟨rfl, hb1⟩
  have HB1 := Lib.hid hb1
  clear hb1 HC
  go_wp2
  go_ret
  exact ⟨rfl, HB1.out⟩
theorem inK_flag {L : List Int} {k : Nat} (h : k < L.length) : (inK L (k + 1)).2 = Lib.isSpaceL L[k] := by
  rw [inK_succ h]
  unfold inSt
  cases hx : Lib.isSpaceL L[k] with
  | true => rfl
  | false =>
    simp only [Bool.false_eq_true, if_false]
    split <;> rfl
end Go.Proofs.YtjpibaehpmkdmaaDoor.P
