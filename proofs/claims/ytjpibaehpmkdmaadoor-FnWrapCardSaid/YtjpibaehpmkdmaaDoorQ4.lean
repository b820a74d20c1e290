/- FnCapitalized holds: its functions, for texts of ASCII. -/
import Derived.Test.YtjpibaehpmkdmaaDoorQ3
set_option linter.unusedVariables false
set_option linter.unusedSimpArgs false
namespace Go.Proofs.YtjpibaehpmkdmaaDoor.P
open Go.RowKit Go.Proofs.YtjpibaehpmkdmaaDoorW.PrintWords Go.Proofs.YtjpibaehpmkdmaaDoorW.PrintLast Go.Proofs.YtjpibaehpmkdmaaDoorW.PrintMore
def upB (x : Int) : Int := if 97 ≤ x ∧ x ≤ 122 then x - 32 else x
def spec_Upper.f (a0 : ByteArray) : Option ByteArray := if a0.size ≤ 70368744177664 then some (strOfNums ((nums8 a0).map upB)) else none
set_option maxHeartbeats 800000 in
set_option maxRecDepth 100000 in
theorem spec_Upper.calls (a0 : ByteArray) (r : ByteArray) (w : World) (h : spec_Upper.f a0 = some r) :
    Calls Tryd.prog 34 #[.string a0] w fun e w' => e = .returned (.string r) ∧ Below w.heap.size w w' := by
  have hsz : a0.size ≤ 70368744177664 := by
    unfold spec_Upper.f at h
    split at h
    · assumption
    · cases h
  have hr : strOfNums ((nums8 a0).map upB) = r := by
    unfold spec_Upper.f at h
    rw [if_pos hsz] at h
    exact Option.some.inj h
  clear h
  subst hr
  have hcv := fun W => run_bytes (P := Tryd.prog) (src := 9) (dst := 64) (e := 5) Tryd.underlying9 Tryd.underlying64 Tryd.underlying5 a0 W
  have HB0 := Lib.hid (bytes_below (Below.refl w.heap.size w) (Nat.le_refl _) 5 a0)
  go_enter Tryd.func34, Tryd.ntmps34
  have hrow := NumRow.of_bytes w 5 a0
  have hl8 := nums8_length a0
  obtain ⟨W, hW⟩ : ∃ W, W = Lib.bytesWorld w 5 a0 := ⟨_, rfl⟩
  have hcw := hcv w
  clear hcv
  rw [← hW] at hcw hrow HB0
  clear hW
  go_wp2
  go_loopw [9] (fun i w' => ∃ j : Nat, i = .int .i64 j ∧ j ≤ a0.size ∧ Hid (NumRow .u8 w' w.heap.size 5 (halfMap upB (nums8 a0) j)) ∧ Hid (Below w.heap.size w w')) (fun i _ => a0.size - (intOf i).toNat)
  case atStart => exact ⟨0, rfl, by omega, by rw [halfMap_zero]; exact Lib.hid hrow, HB0⟩
  case round =>
    obtain ⟨j, rfl, hj, hR, hB⟩ := hrel
    by_cases hlt : j < a0.size
    · have hlx : j < (nums8 a0).length := by omega
      have hly : j < (halfMap upB (nums8 a0) j).length := by rw [halfMap_length _ _ _ (by omega)]; exact hlx
      have hc := hR.out.cell hly
      have hf := hR.out.free hly
      rw [halfMap_at upB _ hlx] at hc
      have hnx := halfMap_next upB (nums8 a0) hlx
      have hsm := halfMap_same upB (nums8 a0) hlx
      have hx0 : 0 ≤ (nums8 a0).getD j 0 ∧ (nums8 a0).getD j 0 ≤ 255 := by
        rw [List.getD_eq_getElem?_getD, List.getElem?_eq_getElem hlx]
        exact nums8_mem a0 _ (List.getElem_mem hlx)
      have hR2 := hR.out.set hly (upB ((nums8 a0).getD j 0))
      rw [← hnx] at hR2
      generalize (nums8 a0).getD j 0 = x at *
      obtain ⟨x0, x1⟩ := hx0
      have hR2' := Lib.hid hR2
      clear hR2 hnx
      by_cases c1 : 97 ≤ x
      · by_cases c2 : x ≤ 122
        · have hu : upB x = x - 32 := if_pos ⟨c1, c2⟩
          rw [hu] at hR2'
          clear hsm
          go_wp2
          go_roundw
          case rel => exact ⟨j + 1, by go_num, by omega, hR2', Lib.hid (hB.out.setCell (Nat.le_refl _) _)⟩
          case measure => simp [intOf]; omega
        · have hu : upB x = x := if_neg (fun h => c2 h.2)
          have hs := hsm hu
          rw [← hs] at hR
          clear hsm hs hR2'
          go_wp2
          go_roundw
          case rel => exact ⟨j + 1, by go_num, by omega, hR, hB⟩
          case measure => simp [intOf]; omega
      · have hu : upB x = x := if_neg (fun h => c1 h.1)
        have hs := hsm hu
        rw [← hs] at hR
        clear hsm hs hR2'
        go_wp2
        go_roundw
        case rel => exact ⟨j + 1, by go_num, by omega, hR, hB⟩
        case measure => simp [intOf]; omega
    · have hall := halfMap_all upB (nums8 a0) (j := j) (by omega)
      rw [hall] at hR
      have hst := hR.out.string (P := Tryd.prog) (cap := grownCap w a0.size 0 5) (src := 64) (dst := 9) Tryd.underlying64 Tryd.underlying5 Tryd.underlying9 (n := a0.size) (by rw [List.length_map, nums8_length])
      clear hall
      go_wp2
      go_ret
      exact ⟨rfl, hB.out⟩

theorem upper_one (n : Int) (w : World) (h0 : 0 ≤ n) (h1 : n < 128) : Calls Tryd.prog 34 #[.string (txI [n])] w fun e w' => e = .returned (.string (txI [Lib.toUpperR n])) ∧ Below w.heap.size w w' := by
  refine spec_Upper.calls (txI [n]) (txI [Lib.toUpperR n]) w ?_
  unfold spec_Upper.f
  rw [if_pos (by rw [txI_size]; show 1 ≤ _; decide), nums8_one h0 h1]
  rfl
/-- The letters of a text as small ones. -/
def lowT (s : ByteArray) : ByteArray := txI ((nums8 s).map Lib.toLowerR)
theorem lowT_nums {s : ByteArray} (ha : ascii s) : nums8 (lowT s) = (nums8 s).map Lib.toLowerR := by
  have h := ascii_mem ha
  unfold lowT
  generalize nums8 s = L at h ⊢
  unfold nums8
  rw [txI_list, List.map_map, List.map_map]
  refine List.map_congr_left fun x hx => ?_
  have h2 := low_range (h x hx).1 (h x hx).2
  show (((UInt8.ofNat (Lib.toLowerR x).toNat).toNat : Nat) : Int) = _
  rw [UInt8.toNat_ofNat']
  omega
theorem lowT_size (s : ByteArray) : (lowT s).size = s.size := by
  unfold lowT
  rw [txI_size, List.length_map, nums8_length]
theorem lowT_ascii {s : ByteArray} (ha : ascii s) : ascii (lowT s) := by
  intro i hi
  have h1 : (nums8 (lowT s))[i]'(by rw [nums8_length]; exact hi) = bt (lowT s) (i : Nat) := nums8_at (lowT s) i hi
  rw [← h1]
  have h2 := List.getElem_mem (l := nums8 (lowT s)) (n := i) (by rw [nums8_length]; exact hi)
  have h3 := ascii_mem ha
  have h4 : ∀ x ∈ nums8 (lowT s), x < 128 := by
    rw [lowT_nums ha]
    intro x hx
    obtain ⟨y, hy, rfl⟩ := List.mem_map.1 hx
    exact (low_range (h3 y hy).1 (h3 y hy).2).2
  exact h4 _ h2
theorem lower_call (s : ByteArray) (hs : s.size ≤ 500) (w : World) : Calls Tryd.prog 37 #[.string s] w fun e w' => e = .returned (.string (lowT s)) ∧ Below w.heap.size w w' := by
  refine spec_Lower.calls s (lowT s) w ?_
  unfold spec_Lower.f
  rw [if_pos (by omega)]
  rfl
theorem lowB_key (c : UInt8) : Lib.lowerB c = UInt8.ofNat (Lib.toLowerR ((c.toNat : Nat) : Int)).toNat := by
  have h1 := c.toNat_lt
  apply UInt8.toNat_inj.1
  unfold Lib.lowerB Lib.isUpperB Lib.toLowerR
  rw [UInt8.toNat_ofNat']
  by_cases h : 65 ≤ c.toNat ∧ c.toNat ≤ 90
  · have e1 : (65 : Int) ≤ (c.toNat : Int) ∧ (c.toNat : Int) ≤ 90 := ⟨by omega, by omega⟩
    have e2 : (decide (65 ≤ c) && decide (c ≤ 90)) = true := by
      rw [Bool.and_eq_true, decide_eq_true_eq, decide_eq_true_eq, UInt8.le_iff_toNat_le, UInt8.le_iff_toNat_le]
      exact h
    rw [if_pos e1, if_pos e2, UInt8.toNat_add]
    show (c.toNat + 32) % 2 ^ 8 = _
    omega
  · have e1 : ¬ ((65 : Int) ≤ (c.toNat : Int) ∧ (c.toNat : Int) ≤ 90) := fun q => h ⟨by omega, by omega⟩
    have e2 : ¬ (decide (65 ≤ c) && decide (c ≤ 90)) = true := by
      rw [Bool.and_eq_true, decide_eq_true_eq, decide_eq_true_eq, UInt8.le_iff_toNat_le, UInt8.le_iff_toNat_le]
      exact h
    rw [if_neg e1, if_neg e2]
    omega
theorem toLower_call (s : ByteArray) (ha : ascii s) (hs : s.size ≤ 500) (w : World) : Calls Tryd.prog 55 #[.string s] w fun e w' => e = .returned (.string (lowT s)) ∧ Below w.heap.size w w' := by
  have h := Tryd.strings_ToLower_ascii s w (by omega) (fun j b hb => by
    obtain ⟨hj, rfl⟩ := List.getElem?_eq_some_iff.1 hb
    have hj2 : j < s.size := by rw [Array.length_toList] at hj; exact hj
    have h2 := ha j hj2
    rw [bt_nat s j hj2] at h2
    have h3 : s.data.toList[j] = s[j]'hj2 := rfl
    rw [h3]
    omega)
  refine h.mono ?_
  rintro e w' ⟨rfl, hb⟩
  refine ⟨?_, hb⟩
  congr 2
  apply ba_ext
  unfold lowT
  rw [txI_list]
  unfold Lib.toLowerA nums8
  rw [List.map_map, List.map_map]
  refine List.map_congr_left fun x hx => ?_
  obtain ⟨j, hj, rfl⟩ := List.getElem_of_mem hx
  have hj2 : j < s.size := by rw [Array.length_toList] at hj; exact hj
  have h2 := ha j hj2
  rw [bt_nat s j hj2] at h2
  have h3 : s.data.toList[j] = s[j]'hj2 := rfl
  rw [h3]
  generalize s[j] = c at *
  exact lowB_key c
/-- What stands between words: white space, or one of some signs. -/
def spOf (p : ByteArray) (n : Int) : Bool := if p.size = 0 then Lib.isSpaceL n else decide (n ∈ nums8 p)
theorem spOf_nil : spOf ⟨#[]⟩ = Lib.isSpaceL := by funext n; rfl
theorem spOf_some {p : ByteArray} (h : ¬ p = ⟨#[]⟩) : spOf p = fun n => decide (n ∈ nums8 p) := by
  funext n
  unfold spOf
  rw [if_neg]
  intro h0
  exact h (by apply ba_ext; exact List.eq_nil_of_length_eq_zero (by rw [Array.length_toList]; exact h0))
theorem btw_call (p : ByteArray) (ha : ascii p) (hp : p.size ≤ 500) (n : Int) (W : World) (h0 : 0 ≤ n) (h1 : n < 128) : Calls Tryd.prog 54 #[.int .u8 n, .string p] W fun e w' => e = .returned (.bool (spOf p n)) ∧ Below W.heap.size W w' := by
  by_cases hz : p = ⟨#[]⟩
  · subst hz
    rw [spOf_nil]
    exact (between_call n W h0 h1).mono (by rintro e w' ⟨rfl, rfl⟩; exact ⟨rfl, Below.refl _ _⟩)
  · rw [spOf_some hz]
    exact between_some n p ha hp hz W h0 h1
set_option maxHeartbeats 1600000 in
set_option maxRecDepth 100000 in
theorem firstLow (p : ByteArray) (hap : ascii p) (hp5 : p.size ≤ 500) (s : ByteArray) (ha : ascii s) (hs : s.size ≤ 500) (w : World) :
    Calls Tryd.prog 33 #[.string s, .string p, .func (.func 37) #[] #[], .func (.func 35) #[] #[]] w fun e w' => e = .returned (.string (txI (gK (spOf p) Lib.toLowerR (nums8 s) s.size).1)) ∧ Below w.heap.size w w' := by
  have HBTW := Lib.hid (btw_call p hap hp5)
  clear hap hp5
  have HR8 := Lib.hid (ascii_mem ha)
  have HLN := Lib.hid (nums8_length s)
  have HAT := Lib.hid (show ∀ (i : Nat) (h : i < s.size), (nums8 s)[i]? = some (((s[i]'h).toNat : Nat) : Int) from fun i h => by rw [List.getElem?_eq_getElem (by rw [nums8_length]; exact h), nums8_at s i h, bt_nat s i h])
  obtain ⟨L, hL⟩ : ∃ L, L = nums8 s := ⟨_, rfl⟩
  obtain ⟨N, hN⟩ : ∃ N, N = s.size := ⟨_, rfl⟩
  have hN5 : N ≤ 500 := by rw [hN]; exact hs
  have HNS := Lib.hid hN
  rw [← hN, ← hL] at HLN
  rw [← hL] at HR8 HAT
  rw [← hN, ← hL]
  have HB := Lib.hid (Below.refl w.heap.size w)
  clear hL hN ha hs
  go_enter Tryd.func33, Tryd.ntmps33
  go_wp2
  go_loopw [9, 10, 11, 12, 15] (fun t f y o i wr => ∃ (k : Nat) (yv ov : Value), t = .string (txI (gK (spOf p) Lib.toLowerR L k).1) ∧ f = .bool (gK (spOf p) Lib.toLowerR L k).2 ∧ yv = y ∧ ov = o ∧ i = .int .i64 k ∧ k ≤ N ∧ Hid (Below w.heap.size w wr)) (fun _ _ _ _ i _ => N - (intOf i).toNat)
  case atStart => exact ⟨0, _, _, rfl, rfl, rfl, rfl, rfl, Nat.zero_le _, HB⟩
  case round =>
    clear HB
    obtain ⟨k, yv, ov, rfl, rfl, rfl, rfl, rfl, hk, hB⟩ := hrel
    by_cases ck : k < N
    · have hks : k < s.size := by rw [← HNS.out]; exact ck
      obtain ⟨n, n0, n1, hr, hst⟩ : ∃ n, 0 ≤ n ∧ n < 128 ∧ (((s[k]'hks).toNat : Nat) : Int) = n ∧ gK (spOf p) Lib.toLowerR L (k + 1) = gSt (spOf p) Lib.toLowerR (gK (spOf p) Lib.toLowerR L k) n := by
        have hkl : k < L.length := by rw [HLN.out]; exact ck
        have h1 := HR8.out L[k] (List.getElem_mem hkl)
        have h2 := HAT.out k hks
        rw [List.getElem?_eq_getElem hkl] at h2
        injection h2 with h2
        exact ⟨L[k], h1.1, h1.2, h2.symm, gK_succ hkl⟩
      have hex : s.extract k (k + 1) = txI [n] := by rw [one_text hks, hr]
      have HHR := Lib.hid hr
      have HEX := Lib.hid hex
      have HI := Lib.hid (fun W => HBTW.out n W n0 n1)
      have hzz : (txI (gK (spOf p) Lib.toLowerR L k).1).size = k := by rw [txI_size]; exact gK_len (sp := spOf p) (cs := Lib.toLowerR) (L := L) (by rw [HLN.out]; exact hk)
      have z1 : (txI [n]).size = 1 := txI_size _
      have z2 : (txI [Lib.toLowerR n]).size = 1 := txI_size _
      have a1 : (txI (gK (spOf p) Lib.toLowerR L k).1).size + (txI [n]).size ≤ 9223372036854775807 := by omega
      have a2 : (txI (gK (spOf p) Lib.toLowerR L k).1).size + (txI [Lib.toLowerR n]).size ≤ 9223372036854775807 := by omega
      have HLO := Lib.hid (fun W => lower_one n W n0 n1)
      have HSA := Lib.hid (fun W => same_call (txI [n]) W)
      have HT1 := Lib.hid (txI_append (gK (spOf p) Lib.toLowerR L k).1 [n])
      have HT2 := Lib.hid (txI_append (gK (spOf p) Lib.toLowerR L k).1 [Lib.toLowerR n])
      clear hr hex hzz z1 z2
      have s1 : k + 1 ≤ s.size := by omega
      have hsl : ∀ W : World, (Instr.slice 9 (.string s) (some (.int .i64 (k : Int))) (some (.int .i64 ((k : Int) + 1))) none).run Tryd.prog W = .ok (.string (txI [n])) W := fun W => by
        rw [run_slice_string_if W 9 s .i64 .i64 (k : Int) ((k : Int) + 1) Tryd.underlying9, if_pos (by omega), if_pos (by omega), ← HEX.out]
        rfl
      clear HEX
      cases hsx : spOf p n with
      | true =>
        have HC1 := Lib.hid (show gK (spOf p) Lib.toLowerR L (k + 1) = ((gK (spOf p) Lib.toLowerR L k).1 ++ [n], true) by rw [hst]; unfold gSt; rw [hsx]; rfl)
        rw [hsx] at HI
        clear hst HLO HSA HT2 a2
        go_wp2_with fail
        rw [HHR.out]
        refine (HI.out _).mono ?_
        rintro e w2 ⟨rfl, hb2⟩
        have HB2 := Lib.hid (hB.out.trans (hb2.mono hB.out.size))
        clear hb2
        clear HI HHR
        go_wp2
        go_roundw
        case rel => exact ⟨k + 1, _, _, by rw [HC1.out]; exact congrArg Value.string HT1.out, by rw [HC1.out], rfl, rfl, by go_num, by omega, HB2⟩
        case measure => simp [intOf]; omega
      | false =>
        rw [hsx] at HI
        cases hf : (gK (spOf p) Lib.toLowerR L k).2 with
        | true =>
          have HC1 := Lib.hid (show gK (spOf p) Lib.toLowerR L (k + 1) = ((gK (spOf p) Lib.toLowerR L k).1 ++ [Lib.toLowerR n], false) by rw [hst]; unfold gSt; rw [hsx, hf]; rfl)
          clear hst HSA HT1 a1
          go_wp2_with fail
          rw [HHR.out]
          refine (HI.out _).mono ?_
          rintro e w2 ⟨rfl, hb2⟩
          have HB2 := Lib.hid (hB.out.trans (hb2.mono hB.out.size))
          clear hb2
          clear HI HHR
          go_wp2_with fail
          refine (HLO.out _).mono ?_
          rintro e w3 ⟨rfl, hb3⟩
          have HB3 := Lib.hid (HB2.out.trans (hb3.mono HB2.out.size))
          clear hb3 HLO HB2 hB
          go_wp2
          go_roundw
          case rel => exact ⟨k + 1, _, _, by rw [HC1.out]; exact congrArg Value.string HT2.out, by rw [HC1.out], rfl, rfl, by go_num, by omega, HB3⟩
          case measure => simp [intOf]; omega
        | false =>
          have HC1 := Lib.hid (show gK (spOf p) Lib.toLowerR L (k + 1) = ((gK (spOf p) Lib.toLowerR L k).1 ++ [n], false) by rw [hst]; unfold gSt; rw [hsx, hf]; rfl)
          clear hst HLO HT2 a2
          go_wp2_with fail
          rw [HHR.out]
          refine (HI.out _).mono ?_
          rintro e w2 ⟨rfl, hb2⟩
          have HB2 := Lib.hid (hB.out.trans (hb2.mono hB.out.size))
          clear hb2
          clear HI HHR
          go_wp2_with fail
          refine (HSA.out _).mono ?_
          rintro e w3 ⟨rfl, rfl⟩
          clear HSA
          go_wp2
          go_roundw
          case rel => exact ⟨k + 1, _, _, by rw [HC1.out]; exact congrArg Value.string HT1.out, by rw [HC1.out], rfl, rfl, by go_num, by omega, HB2⟩
          case measure => simp [intOf]; omega
    · obtain rfl : k = N := by omega
      have hge : ¬ (k < s.size) := by rw [← HNS.out]; omega
      go_wp2
      go_ret
      exact ⟨rfl, hB.out⟩
set_option maxHeartbeats 1600000 in
set_option maxRecDepth 100000 in
theorem firstUp (p : ByteArray) (hap : ascii p) (hp5 : p.size ≤ 500) (s : ByteArray) (ha : ascii s) (hs : s.size ≤ 500) (w : World) :
    Calls Tryd.prog 33 #[.string s, .string p, .func (.func 34) #[] #[], .func (.func 35) #[] #[]] w fun e w' => e = .returned (.string (txI (gK (spOf p) Lib.toUpperR (nums8 s) s.size).1)) ∧ Below w.heap.size w w' := by
  have HBTW := Lib.hid (btw_call p hap hp5)
  clear hap hp5
  have HR8 := Lib.hid (ascii_mem ha)
  have HLN := Lib.hid (nums8_length s)
  have HAT := Lib.hid (show ∀ (i : Nat) (h : i < s.size), (nums8 s)[i]? = some (((s[i]'h).toNat : Nat) : Int) from fun i h => by rw [List.getElem?_eq_getElem (by rw [nums8_length]; exact h), nums8_at s i h, bt_nat s i h])
  obtain ⟨L, hL⟩ : ∃ L, L = nums8 s := ⟨_, rfl⟩
  obtain ⟨N, hN⟩ : ∃ N, N = s.size := ⟨_, rfl⟩
  have hN5 : N ≤ 500 := by rw [hN]; exact hs
  have HNS := Lib.hid hN
  rw [← hN, ← hL] at HLN
  rw [← hL] at HR8 HAT
  rw [← hN, ← hL]
  have HB := Lib.hid (Below.refl w.heap.size w)
  clear hL hN ha hs
  go_enter Tryd.func33, Tryd.ntmps33
  go_wp2
  go_loopw [9, 10, 11, 12, 15] (fun t f y o i wr => ∃ (k : Nat) (yv ov : Value), t = .string (txI (gK (spOf p) Lib.toUpperR L k).1) ∧ f = .bool (gK (spOf p) Lib.toUpperR L k).2 ∧ yv = y ∧ ov = o ∧ i = .int .i64 k ∧ k ≤ N ∧ Hid (Below w.heap.size w wr)) (fun _ _ _ _ i _ => N - (intOf i).toNat)
  case atStart => exact ⟨0, _, _, rfl, rfl, rfl, rfl, rfl, Nat.zero_le _, HB⟩
  case round =>
    clear HB
    obtain ⟨k, yv, ov, rfl, rfl, rfl, rfl, rfl, hk, hB⟩ := hrel
    by_cases ck : k < N
    · have hks : k < s.size := by rw [← HNS.out]; exact ck
      obtain ⟨n, n0, n1, hr, hst⟩ : ∃ n, 0 ≤ n ∧ n < 128 ∧ (((s[k]'hks).toNat : Nat) : Int) = n ∧ gK (spOf p) Lib.toUpperR L (k + 1) = gSt (spOf p) Lib.toUpperR (gK (spOf p) Lib.toUpperR L k) n := by
        have hkl : k < L.length := by rw [HLN.out]; exact ck
        have h1 := HR8.out L[k] (List.getElem_mem hkl)
        have h2 := HAT.out k hks
        rw [List.getElem?_eq_getElem hkl] at h2
        injection h2 with h2
        exact ⟨L[k], h1.1, h1.2, h2.symm, gK_succ hkl⟩
      have hex : s.extract k (k + 1) = txI [n] := by rw [one_text hks, hr]
      have HHR := Lib.hid hr
      have HEX := Lib.hid hex
      have HI := Lib.hid (fun W => HBTW.out n W n0 n1)
      have hzz : (txI (gK (spOf p) Lib.toUpperR L k).1).size = k := by rw [txI_size]; exact gK_len (sp := spOf p) (cs := Lib.toUpperR) (L := L) (by rw [HLN.out]; exact hk)
      have z1 : (txI [n]).size = 1 := txI_size _
      have z2 : (txI [Lib.toUpperR n]).size = 1 := txI_size _
      have a1 : (txI (gK (spOf p) Lib.toUpperR L k).1).size + (txI [n]).size ≤ 9223372036854775807 := by omega
      have a2 : (txI (gK (spOf p) Lib.toUpperR L k).1).size + (txI [Lib.toUpperR n]).size ≤ 9223372036854775807 := by omega
      have HLO := Lib.hid (fun W => upper_one n W n0 n1)
      have HSA := Lib.hid (fun W => same_call (txI [n]) W)
      have HT1 := Lib.hid (txI_append (gK (spOf p) Lib.toUpperR L k).1 [n])
      have HT2 := Lib.hid (txI_append (gK (spOf p) Lib.toUpperR L k).1 [Lib.toUpperR n])
      clear hr hex hzz z1 z2
      have s1 : k + 1 ≤ s.size := by omega
      have hsl : ∀ W : World, (Instr.slice 9 (.string s) (some (.int .i64 (k : Int))) (some (.int .i64 ((k : Int) + 1))) none).run Tryd.prog W = .ok (.string (txI [n])) W := fun W => by
        rw [run_slice_string_if W 9 s .i64 .i64 (k : Int) ((k : Int) + 1) Tryd.underlying9, if_pos (by omega), if_pos (by omega), ← HEX.out]
        rfl
      clear HEX
      cases hsx : spOf p n with
      | true =>
        have HC1 := Lib.hid (show gK (spOf p) Lib.toUpperR L (k + 1) = ((gK (spOf p) Lib.toUpperR L k).1 ++ [n], true) by rw [hst]; unfold gSt; rw [hsx]; rfl)
        rw [hsx] at HI
        clear hst HLO HSA HT2 a2
        go_wp2_with fail
        rw [HHR.out]
        refine (HI.out _).mono ?_
        rintro e w2 ⟨rfl, hb2⟩
        have HB2 := Lib.hid (hB.out.trans (hb2.mono hB.out.size))
        clear hb2
        clear HI HHR
        go_wp2
        go_roundw
        case rel => exact ⟨k + 1, _, _, by rw [HC1.out]; exact congrArg Value.string HT1.out, by rw [HC1.out], rfl, rfl, by go_num, by omega, HB2⟩
        case measure => simp [intOf]; omega
      | false =>
        rw [hsx] at HI
        cases hf : (gK (spOf p) Lib.toUpperR L k).2 with
        | true =>
          have HC1 := Lib.hid (show gK (spOf p) Lib.toUpperR L (k + 1) = ((gK (spOf p) Lib.toUpperR L k).1 ++ [Lib.toUpperR n], false) by rw [hst]; unfold gSt; rw [hsx, hf]; rfl)
          clear hst HSA HT1 a1
          go_wp2_with fail
          rw [HHR.out]
          refine (HI.out _).mono ?_
          rintro e w2 ⟨rfl, hb2⟩
          have HB2 := Lib.hid (hB.out.trans (hb2.mono hB.out.size))
          clear hb2
          clear HI HHR
          go_wp2_with fail
          refine (HLO.out _).mono ?_
          rintro e w3 ⟨rfl, hb3⟩
          have HB3 := Lib.hid (HB2.out.trans (hb3.mono HB2.out.size))
          clear hb3 HLO HB2 hB
          go_wp2
          go_roundw
          case rel => exact ⟨k + 1, _, _, by rw [HC1.out]; exact congrArg Value.string HT2.out, by rw [HC1.out], rfl, rfl, by go_num, by omega, HB3⟩
          case measure => simp [intOf]; omega
        | false =>
          have HC1 := Lib.hid (show gK (spOf p) Lib.toUpperR L (k + 1) = ((gK (spOf p) Lib.toUpperR L k).1 ++ [n], false) by rw [hst]; unfold gSt; rw [hsx, hf]; rfl)
          clear hst HLO HT2 a2
          go_wp2_with fail
          rw [HHR.out]
          refine (HI.out _).mono ?_
          rintro e w2 ⟨rfl, hb2⟩
          have HB2 := Lib.hid (hB.out.trans (hb2.mono hB.out.size))
          clear hb2
          clear HI HHR
          go_wp2_with fail
          refine (HSA.out _).mono ?_
          rintro e w3 ⟨rfl, rfl⟩
          clear HSA
          go_wp2
          go_roundw
          case rel => exact ⟨k + 1, _, _, by rw [HC1.out]; exact congrArg Value.string HT1.out, by rw [HC1.out], rfl, rfl, by go_num, by omega, HB2⟩
          case measure => simp [intOf]; omega
    · obtain rfl : k = N := by omega
      have hge : ¬ (k < s.size) := by rw [← HNS.out]; omega
      go_wp2
      go_ret
      exact ⟨rfl, hB.out⟩
set_option maxHeartbeats 1600000 in
set_option maxRecDepth 100000 in
theorem specUncap (p : ByteArray) (hap : ascii p) (hp5 : p.size ≤ 500) (s : ByteArray) (ha : ascii s) (hs : s.size ≤ 500) (w : World) :
    Calls Tryd.prog 13 #[.string s, .string p] w fun e w' => e = .returned (.string (txI ((gK (spOf p) Lib.toLowerR (nums8 s) s.size).1))) ∧ Below w.heap.size w w' := by
  have HC := Lib.hid (firstLow p hap hp5 s ha hs w)
  clear ha hap
  generalize txI ((gK (spOf p) Lib.toLowerR (nums8 s) s.size).1) = r at *
  go_enter Tryd.func13, Tryd.ntmps13
  go_wp2_with fail
  refine HC.out.mono ?_
  rintro e w1 ⟨rfl, hb1⟩
  have HB1 := Lib.hid hb1
  clear hb1 HC
  go_wp2
  go_ret
  exact ⟨rfl, HB1.out⟩
set_option maxHeartbeats 1600000 in
set_option maxRecDepth 100000 in
theorem specCap (p : ByteArray) (hap : ascii p) (hp5 : p.size ≤ 500) (s : ByteArray) (ha : ascii s) (hs : s.size ≤ 500) (w : World) :
    Calls Tryd.prog 9 #[.string s, .string p] w fun e w' => e = .returned (.string (txI ((gK (spOf p) Lib.toUpperR (nums8 s) s.size).1))) ∧ Below w.heap.size w w' := by
  have HC := Lib.hid (firstUp p hap hp5 s ha hs w)
  clear ha hap
  generalize txI ((gK (spOf p) Lib.toUpperR (nums8 s) s.size).1) = r at *
  go_enter Tryd.func9, Tryd.ntmps9
  go_wp2_with fail
  refine HC.out.mono ?_
  rintro e w1 ⟨rfl, hb1⟩
  have HB1 := Lib.hid hb1
  clear hb1 HC
  go_wp2
  go_ret
  exact ⟨rfl, HB1.out⟩
set_option maxHeartbeats 1600000 in
set_option maxRecDepth 100000 in
theorem specFully (p : ByteArray) (hap : ascii p) (hp5 : p.size ≤ 500) (s : ByteArray) (ha : ascii s) (hs : s.size ≤ 500) (w : World) :
    Calls Tryd.prog 11 #[.string s, .string p] w fun e w' => e = .returned (.string (txI ((gK (spOf p) Lib.toUpperR (nums8 (lowT s)) (lowT s).size).1))) ∧ Below w.heap.size w w' := by
  have HL := Lib.hid (lower_call s hs w)
  have HC := Lib.hid (fun W => firstUp p hap hp5 (lowT s) (lowT_ascii ha) (by rw [lowT_size]; exact hs) W)
  clear ha hap
  generalize txI ((gK (spOf p) Lib.toUpperR (nums8 (lowT s)) (lowT s).size).1) = r at *
  generalize lowT s = l at *
  go_enter Tryd.func11, Tryd.ntmps11
  go_wp2_with fail
  refine HL.out.mono ?_
  rintro e w1 ⟨rfl, hb1⟩
  have HB1 := Lib.hid hb1
  clear hb1 HL
  go_wp2_with fail
  refine (HC.out _).mono ?_
  rintro e w2 ⟨rfl, hb2⟩
  have HB2 := Lib.hid (HB1.out.trans (hb2.mono HB1.out.size))
  clear hb2 HB1 HC
  go_wp2
  go_ret
  exact ⟨rfl, HB2.out⟩
set_option maxHeartbeats 1600000 in
set_option maxRecDepth 100000 in
theorem fullyG (sp : Int → Bool) (w : World) (s : ByteArray) (ha : ascii s) (hs : s.size ≤ 500) (hdel : ∀ (r : Int) (W : World), 0 ≤ r → r < 128 → Below w.heap.size w W → Calls Tryd.prog 52 #[.int .i32 r, .slice none 0 0] W fun e w' => e = .returned (.bool (sp r)) ∧ w' = W) :
    Calls Tryd.prog 36 #[.string s, .slice none 0 0] w fun e w' => e = .returned (.string (txI ((gK sp Lib.toUpperR (nums8 (lowT s)) (lowT s).size).1))) ∧ Below w.heap.size w w' := by
  have hnil := nil_eq
  by_cases hs0 : s = ⟨#[]⟩
  · subst hs0
    have HX := Lib.hid (show txI (gK sp Lib.toUpperR (nums8 (lowT ⟨#[]⟩)) (lowT ⟨#[]⟩).size).1 = ⟨#[]⟩ by rfl)
    rw [HX.out]
    clear hdel
    go_enter Tryd.func36, Tryd.ntmps36
    go_wp2
    go_ret
    exact ⟨rfl, Below.refl _ _⟩
  have hne := full_text hs0
  have HL := Lib.hid (toLower_call s ha hs w)
  have HC := Lib.hid (fun (W : World) (hW : Below w.heap.size w W) => capG sp W (lowT s) (lowT_ascii ha) (by rw [lowT_size]; exact hs) (fun r V h0 h1 hV => hdel r V h0 h1 (hW.trans (hV.mono hW.size))))
  clear ha hdel
  generalize txI (gK sp Lib.toUpperR (nums8 (lowT s)) (lowT s).size).1 = r at *
  generalize lowT s = l at *
  go_enter Tryd.func36, Tryd.ntmps36
  go_wp2_with fail
  refine HL.out.mono ?_
  rintro e w1 ⟨rfl, hb1⟩
  have HB1 := Lib.hid hb1
  have HC1 := Lib.hid (HC.out w1 hb1)
  clear hb1 HL HC
  go_wp2_with fail
  refine HC1.out.mono ?_
  rintro e w2 ⟨rfl, hb2⟩
  have HB2 := Lib.hid (HB1.out.trans (hb2.mono HB1.out.size))
  clear hb2 HB1 HC1
  go_wp2
  go_ret
  exact ⟨rfl, HB2.out⟩
set_option maxHeartbeats 1600000 in
set_option maxRecDepth 100000 in
theorem fullyD (sp : Int → Bool) (ad : Addr) (dn dc : Nat) (hdn : 0 < dn) (hdn2 : dn ≤ 1000) (w : World) (s : ByteArray) (ha : ascii s) (hs : s.size ≤ 500) (hdel : ∀ (r : Int) (W : World), 0 ≤ r → r < 128 → Below w.heap.size w W → Calls Tryd.prog 52 #[.int .i32 r, .slice (some ad) dn dc] W fun e w' => e = .returned (.bool (sp r)) ∧ w' = W) :
    Calls Tryd.prog 36 #[.string s, .slice (some ad) dn dc] w fun e w' => e = .returned (.string (txI ((gK sp Lib.toUpperR (nums8 (lowT s)) (lowT s).size).1))) ∧ Below w.heap.size w w' := by
  have hnil : ∀ W : World, (binOp BinOp.eql 38 (Value.slice (some ad) dn dc) (Value.slice none 0 0)).run Tryd.prog W = .ok (.bool false) W := fun W => by kernel_rfl
  have hdz : ((dn : Int) == 0) = false := beq_eq_false_iff_ne.2 (by omega)
  have hdz2 : (dn == 0) = false := beq_eq_false_iff_ne.2 (by omega)
  by_cases hs0 : s = ⟨#[]⟩
  · subst hs0
    have HX := Lib.hid (show txI (gK sp Lib.toUpperR (nums8 (lowT ⟨#[]⟩)) (lowT ⟨#[]⟩).size).1 = ⟨#[]⟩ by rfl)
    rw [HX.out]
    clear hdel
    go_enter Tryd.func36, Tryd.ntmps36
    go_wp2
    go_ret
    exact ⟨rfl, Below.refl _ _⟩
  have hne := full_text hs0
  have HL := Lib.hid (toLower_call s ha hs w)
  have HC := Lib.hid (fun (W : World) (hW : Below w.heap.size w W) => capD sp ad dn dc hdn hdn2 W (lowT s) (lowT_ascii ha) (by rw [lowT_size]; exact hs) (fun r V h0 h1 hV => hdel r V h0 h1 (hW.trans (hV.mono hW.size))))
  clear ha hdel
  generalize txI (gK sp Lib.toUpperR (nums8 (lowT s)) (lowT s).size).1 = r at *
  generalize lowT s = l at *
  go_enter Tryd.func36, Tryd.ntmps36
  go_wp2_with fail
  refine HL.out.mono ?_
  rintro e w1 ⟨rfl, hb1⟩
  have HB1 := Lib.hid hb1
  have HC1 := Lib.hid (HC.out w1 hb1)
  clear hb1 HL HC
  go_wp2_with fail
  refine HC1.out.mono ?_
  rintro e w2 ⟨rfl, hb2⟩
  have HB2 := Lib.hid (HB1.out.trans (hb2.mono HB1.out.size))
  clear hb2 HB1 HC1
  go_wp2
  go_ret
  exact ⟨rfl, HB2.out⟩
set_option maxHeartbeats 1600000 in
set_option maxRecDepth 100000 in
theorem implCap (p : ByteArray) (hap : ascii p) (hp5 : p.size ≤ 8) (s : ByteArray) (ha : ascii s) (hs : s.size ≤ 500) (w : World) :
    Calls Tryd.prog 8 #[.string s, .string p] w fun e w' => e = .returned (.string (txI ((gK (spOf p) Lib.toUpperR (nums8 s) s.size).1))) ∧ Below w.heap.size w w' := by
  by_cases hz : p = ⟨#[]⟩
  · subst hz
    rw [spOf_nil]
    have HC := Lib.hid (capG Lib.isSpaceL w s ha hs (fun r W h0 h1 _ => isDelim_call r W h0 h1))
    clear ha hap hp5
    generalize txI ((gK Lib.isSpaceL Lib.toUpperR (nums8 s) s.size).1) = r at *
    go_enter Tryd.func8, Tryd.ntmps8
    go_wp2_with fail
    refine HC.out.mono ?_
    rintro e w1 ⟨rfl, hb1⟩
    have HB1 := Lib.hid hb1
    clear hb1 HC
    go_wp2
    go_ret
    exact ⟨rfl, HB1.out⟩
  · rw [spOf_some hz]
    have hne := full_text hz
    have HRO := Lib.hid (runesOf_ascii hap)
    have HLN := Lib.hid (nums8_length p)
    have HSZ := Lib.hid (show p.size ≤ 70368744177664 by omega)
    have HC := Lib.hid (fun (W : World) (ad : Addr) (dc : Nat) (hC : Kd.C (Kd.int .i32) W (some ad) (nums8 p).length (nums8 p)) => capD (fun n => decide (n ∈ nums8 p)) ad (nums8 p).length dc (by
      rw [nums8_length]
      rcases Nat.eq_zero_or_pos p.size with h | h
      · exact absurd (by apply ba_ext; exact List.eq_nil_of_length_eq_zero (by rw [Array.length_toList]; exact h)) hz
      · exact h) (by rw [nums8_length]; omega) W s ha hs (fun r V h0 h1 hV => isDelim_some r ad (nums8 p) dc V h0 h1 (by rw [nums8_length]; omega) (Kd.C_below hC hV)))
    have HPOS := Lib.hid (show 0 < (nums8 p).length by
      rw [nums8_length]
      rcases Nat.eq_zero_or_pos p.size with h | h
      · exact absurd (by apply ba_ext; exact List.eq_nil_of_length_eq_zero (by rw [Array.length_toList]; exact h)) hz
      · exact h)
    clear ha hap hp5
    generalize txI ((gK (fun n => decide (n ∈ nums8 p)) Lib.toUpperR (nums8 s) s.size).1) = r at *
    go_enter Tryd.func8, Tryd.ntmps8
    go_wp2_with (first | ((with_reducible refine gate_dst (N := 11) rfl ?_); refine Kd.R_runes _ 21 rfl (N := 11) rfl 9 38 _ rfl p rfl Tryd.underlying9 Tryd.underlying38 Tryd.underlying21 (ok := fun _ => True) trivial HSZ.out (Below.refl _ _) (Nat.le_refl _) ?_) | fail)
    intro v1 w1 hr1 hb1 hg1 b1 hn1 hn2
    rw [HRO.out] at hr1
    obtain ⟨A, c, rfl, hle, hC⟩ := Kd.R_reads hr1
    obtain ⟨ad, rfl⟩ : ∃ ad, A = some ad := by
      obtain ⟨ad, he, _⟩ := Kd.at_int hC (0 : Int) (by omega) (by have := HPOS.out; omega)
      exact ⟨ad, he⟩
    have HB1 := Lib.hid hb1
    have HC1 := Lib.hid (HC.out w1 ad c hC)
    clear hr1 hb1 hg1 hn1 hn2 hC hle HC HRO HSZ HLN HPOS
    generalize (nums8 p).length = N at *
    go_wp2_with fail
    refine HC1.out.mono ?_
    rintro e w2 ⟨rfl, hb2⟩
    have HB2 := Lib.hid (HB1.out.trans (hb2.mono HB1.out.size))
    clear hb2 HB1 HC1
    go_wp2
    go_ret
    exact ⟨rfl, HB2.out⟩
set_option maxHeartbeats 1600000 in
set_option maxRecDepth 100000 in
theorem implFully (p : ByteArray) (hap : ascii p) (hp5 : p.size ≤ 8) (s : ByteArray) (ha : ascii s) (hs : s.size ≤ 500) (w : World) :
    Calls Tryd.prog 10 #[.string s, .string p] w fun e w' => e = .returned (.string (txI ((gK (spOf p) Lib.toUpperR (nums8 (lowT s)) (lowT s).size).1))) ∧ Below w.heap.size w w' := by
  by_cases hz : p = ⟨#[]⟩
  · subst hz
    rw [spOf_nil]
    have HC := Lib.hid (fullyG Lib.isSpaceL w s ha hs (fun r W h0 h1 _ => isDelim_call r W h0 h1))
    clear ha hap hp5
    generalize txI ((gK Lib.isSpaceL Lib.toUpperR (nums8 (lowT s)) (lowT s).size).1) = r at *
    go_enter Tryd.func10, Tryd.ntmps10
    go_wp2_with fail
    refine HC.out.mono ?_
    rintro e w1 ⟨rfl, hb1⟩
    have HB1 := Lib.hid hb1
    clear hb1 HC
    go_wp2
    go_ret
    exact ⟨rfl, HB1.out⟩
  · rw [spOf_some hz]
    have hne := full_text hz
    have HRO := Lib.hid (runesOf_ascii hap)
    have HLN := Lib.hid (nums8_length p)
    have HSZ := Lib.hid (show p.size ≤ 70368744177664 by omega)
    have HC := Lib.hid (fun (W : World) (ad : Addr) (dc : Nat) (hC : Kd.C (Kd.int .i32) W (some ad) (nums8 p).length (nums8 p)) => fullyD (fun n => decide (n ∈ nums8 p)) ad (nums8 p).length dc (by
      rw [nums8_length]
      rcases Nat.eq_zero_or_pos p.size with h | h
      · exact absurd (by apply ba_ext; exact List.eq_nil_of_length_eq_zero (by rw [Array.length_toList]; exact h)) hz
      · exact h) (by rw [nums8_length]; omega) W s ha hs (fun r V h0 h1 hV => isDelim_some r ad (nums8 p) dc V h0 h1 (by rw [nums8_length]; omega) (Kd.C_below hC hV)))
    have HPOS := Lib.hid (show 0 < (nums8 p).length by
      rw [nums8_length]
      rcases Nat.eq_zero_or_pos p.size with h | h
      · exact absurd (by apply ba_ext; exact List.eq_nil_of_length_eq_zero (by rw [Array.length_toList]; exact h)) hz
      · exact h)
    clear ha hap hp5
    generalize txI ((gK (fun n => decide (n ∈ nums8 p)) Lib.toUpperR (nums8 (lowT s)) (lowT s).size).1) = r at *
    go_enter Tryd.func10, Tryd.ntmps10
    go_wp2_with (first | ((with_reducible refine gate_dst (N := 11) rfl ?_); refine Kd.R_runes _ 21 rfl (N := 11) rfl 9 38 _ rfl p rfl Tryd.underlying9 Tryd.underlying38 Tryd.underlying21 (ok := fun _ => True) trivial HSZ.out (Below.refl _ _) (Nat.le_refl _) ?_) | fail)
    intro v1 w1 hr1 hb1 hg1 b1 hn1 hn2
    rw [HRO.out] at hr1
    obtain ⟨A, c, rfl, hle, hC⟩ := Kd.R_reads hr1
    obtain ⟨ad, rfl⟩ : ∃ ad, A = some ad := by
      obtain ⟨ad, he, _⟩ := Kd.at_int hC (0 : Int) (by omega) (by have := HPOS.out; omega)
      exact ⟨ad, he⟩
    have HB1 := Lib.hid hb1
    have HC1 := Lib.hid (HC.out w1 ad c hC)
    clear hr1 hb1 hg1 hn1 hn2 hC hle HC HRO HSZ HLN HPOS
    generalize (nums8 p).length = N at *
    go_wp2_with fail
    refine HC1.out.mono ?_
    rintro e w2 ⟨rfl, hb2⟩
    have HB2 := Lib.hid (HB1.out.trans (hb2.mono HB1.out.size))
    clear hb2 HB1 HC1
    go_wp2
    go_ret
    exact ⟨rfl, HB2.out⟩
set_option maxHeartbeats 1600000 in
set_option maxRecDepth 100000 in
theorem implUncap (p : ByteArray) (hap : ascii p) (hp5 : p.size ≤ 8) (s : ByteArray) (ha : ascii s) (hs : s.size ≤ 500) (w : World) :
    Calls Tryd.prog 12 #[.string s, .string p] w fun e w' => e = .returned (.string (txI ((gK (spOf p) Lib.toLowerR (nums8 s) s.size).1))) ∧ Below w.heap.size w w' := by
  by_cases hz : p = ⟨#[]⟩
  · subst hz
    rw [spOf_nil]
    have HC := Lib.hid (uncapG Lib.isSpaceL w s ha hs (fun r W h0 h1 _ => isDelim_call r W h0 h1))
    clear ha hap hp5
    generalize txI ((gK Lib.isSpaceL Lib.toLowerR (nums8 s) s.size).1) = r at *
    go_enter Tryd.func12, Tryd.ntmps12
    go_wp2_with fail
    refine HC.out.mono ?_
    rintro e w1 ⟨rfl, hb1⟩
    have HB1 := Lib.hid hb1
    clear hb1 HC
    go_wp2
    go_ret
    exact ⟨rfl, HB1.out⟩
  · rw [spOf_some hz]
    have hne := full_text hz
    have HRO := Lib.hid (runesOf_ascii hap)
    have HLN := Lib.hid (nums8_length p)
    have HSZ := Lib.hid (show p.size ≤ 70368744177664 by omega)
    have HC := Lib.hid (fun (W : World) (ad : Addr) (dc : Nat) (hC : Kd.C (Kd.int .i32) W (some ad) (nums8 p).length (nums8 p)) => uncapD (fun n => decide (n ∈ nums8 p)) ad (nums8 p).length dc (by
      rw [nums8_length]
      rcases Nat.eq_zero_or_pos p.size with h | h
      · exact absurd (by apply ba_ext; exact List.eq_nil_of_length_eq_zero (by rw [Array.length_toList]; exact h)) hz
      · exact h) (by rw [nums8_length]; omega) W s ha hs (fun r V h0 h1 hV => isDelim_some r ad (nums8 p) dc V h0 h1 (by rw [nums8_length]; omega) (Kd.C_below hC hV)))
    have HPOS := Lib.hid (show 0 < (nums8 p).length by
      rw [nums8_length]
      rcases Nat.eq_zero_or_pos p.size with h | h
      · exact absurd (by apply ba_ext; exact List.eq_nil_of_length_eq_zero (by rw [Array.length_toList]; exact h)) hz
      · exact h)
    clear ha hap hp5
    generalize txI ((gK (fun n => decide (n ∈ nums8 p)) Lib.toLowerR (nums8 s) s.size).1) = r at *
    go_enter Tryd.func12, Tryd.ntmps12
    go_wp2_with (first | ((with_reducible refine gate_dst (N := 11) rfl ?_); refine Kd.R_runes _ 21 rfl (N := 11) rfl 9 38 _ rfl p rfl Tryd.underlying9 Tryd.underlying38 Tryd.underlying21 (ok := fun _ => True) trivial HSZ.out (Below.refl _ _) (Nat.le_refl _) ?_) | fail)
    intro v1 w1 hr1 hb1 hg1 b1 hn1 hn2
    rw [HRO.out] at hr1
    obtain ⟨A, c, rfl, hle, hC⟩ := Kd.R_reads hr1
    obtain ⟨ad, rfl⟩ : ∃ ad, A = some ad := by
      obtain ⟨ad, he, _⟩ := Kd.at_int hC (0 : Int) (by omega) (by have := HPOS.out; omega)
      exact ⟨ad, he⟩
    have HB1 := Lib.hid hb1
    have HC1 := Lib.hid (HC.out w1 ad c hC)
    clear hr1 hb1 hg1 hn1 hn2 hC hle HC HRO HSZ HLN HPOS
    generalize (nums8 p).length = N at *
    go_wp2_with fail
    refine HC1.out.mono ?_
    rintro e w2 ⟨rfl, hb2⟩
    have HB2 := Lib.hid (HB1.out.trans (hb2.mono HB1.out.size))
    clear hb2 HB1 HC1
    go_wp2
    go_ret
    exact ⟨rfl, HB2.out⟩
set_option maxHeartbeats 1600000 in
set_option maxRecDepth 100000 in
theorem plain9_two (s p : ByteArray) : ∃ b : Bool, (b = true → (s.size ≤ 500 ∧ ascii s) ∧ (p.size ≤ 500 ∧ ascii p)) ∧ ∀ (bk : Nat) (c : Nat) (w : World), w.cell? ⟨bk, 0, none⟩ = some (.string s) → w.cell? ⟨bk, 1, none⟩ = some (.string p) →
    Calls Tryd.prog 7 #[.slice (some ⟨bk, 0, none⟩) 2 c] w fun e w' => e = .returned (.bool b) ∧ Below w.heap.size w w' := by
  have one : ∀ x : ByteArray, ∃ b1 b2 : Bool, (b1 = false → x.size ≤ 500) ∧ decide (500 < (x.size : Int)) = b1 ∧ decide (500 < x.size) = b1 ∧ (b1 = false → (b2 = true → ascii x) ∧ ∀ w : World, Calls Tryd.prog 31 #[.string x] w fun e w' => e = .returned (.bool b2) ∧ w' = w) := by
    intro x
    by_cases h5 : x.size ≤ 500
    · obtain ⟨b2, hb2, hc⟩ := ascii_call x h5
      exact ⟨false, b2, fun _ => h5, decide_eq_false (by omega), decide_eq_false (by omega), fun _ => ⟨hb2, hc⟩⟩
    · exact ⟨true, false, (fun h => by cases h), decide_eq_true (by omega), decide_eq_true (by omega), (fun h => by cases h)⟩
  obtain ⟨s1, s2, hs5, ds, ds', hsc⟩ := one s
  obtain ⟨p1, p2, hp5, dp, dp', hpc⟩ := one p
  refine ⟨!s1 && s2 && (!p1 && p2), ?_, ?_⟩
  · intro h
    cases s1 <;> cases s2 <;> cases p1 <;> cases p2 <;> first | (cases h; done) | skip
    exact ⟨⟨hs5 rfl, (hsc rfl).1 rfl⟩, hp5 rfl, (hpc rfl).1 rfl⟩
  intro bk c w hcs hcp
  have HS := Lib.hid hsc
  have HP := Lib.hid hpc
  have HB := Lib.hid (Below.refl w.heap.size w)
  clear hsc hpc hs5 hp5
  go_enter Tryd.func7, Tryd.ntmps7
  go_wp2
  go_loop [3, 6] (fun y i => ∃ (k : Nat) (y' : Value), y' = y ∧ i = .int .i64 k ∧ k ≤ 2 ∧ Hid (0 < k → s1 = false ∧ s2 = true) ∧ Hid (1 < k → p1 = false ∧ p2 = true)) (fun _ i => 2 - (intOf i).toNat)
  case atStart => exact ⟨0, _, rfl, rfl, Nat.zero_le _, Lib.hid (fun h => absurd h (by omega)), Lib.hid (fun h => absurd h (by omega))⟩
  case round =>
    obtain ⟨k, y0, rfl, rfl, hk, h1, h2⟩ := hrel
    have hcs3 : k = 0 ∨ k = 1 ∨ k = 2 := by omega
    rcases hcs3 with rfl | rfl | rfl
    · clear h1 h2 hk
      cases s1 with
      | true =>
        go_wp2
        go_ret
        exact ⟨rfl, HB.out⟩
      | false =>
        have HU := Lib.hid (HS.out rfl).2
        clear HS
        go_wp2_with fail
        refine (HU.out _).mono ?_
        rintro e w1 ⟨rfl, rfl⟩
        clear HU
        cases s2 with
        | false =>
          go_wp2
          go_ret
          exact ⟨rfl, HB.out⟩
        | true =>
          go_wp2
          go_round
          case rel => exact ⟨1, _, rfl, rfl, by omega, Lib.hid (by simp), Lib.hid (by simp)⟩
          case measure => simp [intOf]
    · obtain ⟨e1, e2⟩ := h1.out (by omega)
      subst e1 e2
      clear h1 h2 hk HS
      cases p1 with
      | true =>
        go_wp2
        go_ret
        exact ⟨rfl, HB.out⟩
      | false =>
        have HU := Lib.hid (HP.out rfl).2
        clear HP
        go_wp2_with fail
        refine (HU.out _).mono ?_
        rintro e w1 ⟨rfl, rfl⟩
        clear HU
        cases p2 with
        | false =>
          go_wp2
          go_ret
          exact ⟨rfl, HB.out⟩
        | true =>
          go_wp2
          go_round
          case rel => exact ⟨2, _, rfl, rfl, by omega, Lib.hid (by simp), Lib.hid (by simp)⟩
          case measure => simp [intOf]
    · obtain ⟨e1, e2⟩ := h1.out (by omega)
      obtain ⟨e3, e4⟩ := h2.out (by omega)
      subst e1 e2 e3 e4
      clear h1 h2
      go_wp2
      go_ret
      exact ⟨rfl, HB.out⟩
theorem tx_cap : txI (gK (spOf ⟨#[]⟩) Lib.toUpperR (nums8 ⟨#[97]⟩) (⟨#[97]⟩ : ByteArray).size).1 = ⟨#[65]⟩ := by apply ba_ext; decide +kernel
theorem a_ascii : ascii ⟨#[97]⟩ := by
  intro i hi
  have h : ∀ j : Fin 1, bt ⟨#[97]⟩ ((j.val : Nat) : Int) < 128 := by decide +kernel
  exact h ⟨i, hi⟩
theorem nil_ascii : ascii ⟨#[]⟩ := by intro i hi; exact absurd hi (by simp [ByteArray.size])
set_option maxHeartbeats 1600000 in
set_option maxRecDepth 100000 in
theorem fnCapitalized (s p : ByteArray) (w : World) (hs0 : s.size ≤ 140737488351232) (hp0 : p.size ≤ 140737488351232) :
    Calls Tryd.prog 3 #[.string s, .string p] w fun e w' => e = .returned (.bool true) ∧ Below w.heap.size w w' := by
  have HB := Lib.hid (Below.refl w.heap.size w)
  by_cases c0 : 2147483647 < (s.size : Int)
  · have d0 : decide (2147483647 < (s.size : Int)) = true := decide_eq_true c0
    go_enter Tryd.func3, Tryd.ntmps3
    go_wp2
    go_ret
    exact ⟨rfl, HB.out⟩
  have d0 : decide (2147483647 < (s.size : Int)) = false := decide_eq_false c0
  by_cases c1 : 2147483647 < (p.size : Int)
  · have d1 : decide (2147483647 < (p.size : Int)) = true := decide_eq_true c1
    go_enter Tryd.func3, Tryd.ntmps3
    go_wp2
    go_ret
    exact ⟨rfl, HB.out⟩
  have d1 : decide (2147483647 < (p.size : Int)) = false := decide_eq_false c1
  obtain ⟨b, hb, h9⟩ := plain9_two s p
  have H9 := Lib.hid h9
  have HBA := Lib.hid ((Below.refl w.heap.size w).alloc (Nat.le_refl _) (.cells #[.string s, .string p] 9))
  have q1 : (w.alloc (.cells #[.string s, .string p] 9)).cell? ⟨w.heap.size, 0, none⟩ = some (.string s) := by rw [blk_cell (heap_alloc_new w (.cells #[.string s, .string p] 9)) 0]; rfl
  have q2 : (w.alloc (.cells #[.string s, .string p] 9)).cell? ⟨w.heap.size, 1, none⟩ = some (.string p) := by
    rw [blk_cell (heap_alloc_new w (.cells #[.string s, .string p] 9)) 1]; rfl
  have Q1 := Lib.hid q1
  have Q2 := Lib.hid q2
  clear q1 q2
  cases b with
  | false =>
    clear hb h9
    go_enter Tryd.func3, Tryd.ntmps3
    go_wp2_with fail
    refine (H9.out _ _ _ Q1.out Q2.out).mono ?_
    rintro e w1 ⟨rfl, hb1⟩
    have HB1 := Lib.hid (HBA.out.trans (hb1.mono (by simp)))
    clear hb1 H9 HBA
    go_wp2
    go_ret
    exact ⟨rfl, HB1.out⟩
  | true =>
  obtain ⟨⟨h5, ha⟩, hp5, hap⟩ := hb rfl
  by_cases c8 : 8 < (p.size : Int)
  · have d8 : decide (8 < (p.size : Int)) = true := decide_eq_true c8
    have d8' : decide (8 < p.size) = true := decide_eq_true (by omega)
    clear hb h9 ha h5 hap hp5
    go_enter Tryd.func3, Tryd.ntmps3
    go_wp2_with fail
    refine (H9.out _ _ _ Q1.out Q2.out).mono ?_
    rintro e w1 ⟨rfl, hb1⟩
    have HB1 := Lib.hid (HBA.out.trans (hb1.mono (by simp)))
    clear hb1 H9 HBA
    go_wp2
    go_ret
    exact ⟨rfl, HB1.out⟩
  have d8 : decide (8 < (p.size : Int)) = false := decide_eq_false c8
  have d8' : decide (8 < p.size) = false := decide_eq_false (by omega)
  have hp8 : p.size ≤ 8 := by omega
  have H1 := Lib.hid (fun W => implCap p hap hp8 s ha h5 W)
  have H2 := Lib.hid (fun W => specCap p hap hp5 s ha h5 W)
  have H3 := Lib.hid (fun W => implFully p hap hp8 s ha h5 W)
  have H4 := Lib.hid (fun W => specFully p hap hp5 s ha h5 W)
  have H5 := Lib.hid (fun W => implUncap p hap hp8 s ha h5 W)
  have H6 := Lib.hid (fun W => specUncap p hap hp5 s ha h5 W)
  have H7 := Lib.hid (fun W => implCap ⟨#[]⟩ nil_ascii (by decide) ⟨#[97]⟩ a_ascii (by decide) W)
  rw [tx_cap] at H7
  generalize txI (gK (spOf p) Lib.toUpperR (nums8 s) s.size).1 = r1 at *
  generalize txI (gK (spOf p) Lib.toUpperR (nums8 (lowT s)) (lowT s).size).1 = r2 at *
  generalize txI (gK (spOf p) Lib.toLowerR (nums8 s) s.size).1 = r3 at *
  clear hb h9 ha h5 hap hp5 hp8
  go_enter Tryd.func3, Tryd.ntmps3
  go_wp2_with fail
  refine (H9.out _ _ _ Q1.out Q2.out).mono ?_
  rintro e w1 ⟨rfl, hb1⟩
  have HB1 := Lib.hid (HBA.out.trans (hb1.mono (by simp)))
  clear hb1 H9 HBA
  go_wp2_with fail
  refine (H1.out _).mono ?_
  rintro e w2 ⟨rfl, hb2⟩
  have HB2 := Lib.hid (HB1.out.trans (hb2.mono HB1.out.size))
  clear hb2 H1 HB1
  go_wp2_with fail
  refine (H2.out _).mono ?_
  rintro e w3 ⟨rfl, hb3⟩
  have HB3 := Lib.hid (HB2.out.trans (hb3.mono HB2.out.size))
  clear hb3 H2 HB2
  go_wp2_with fail
  refine (H3.out _).mono ?_
  rintro e w4 ⟨rfl, hb4⟩
  have HB4 := Lib.hid (HB3.out.trans (hb4.mono HB3.out.size))
  clear hb4 H3 HB3
  go_wp2_with fail
  refine (H4.out _).mono ?_
  rintro e w5 ⟨rfl, hb5⟩
  have HB5 := Lib.hid (HB4.out.trans (hb5.mono HB4.out.size))
  clear hb5 H4 HB4
  go_wp2_with fail
  refine (H5.out _).mono ?_
  rintro e w6 ⟨rfl, hb6⟩
  have HB6 := Lib.hid (HB5.out.trans (hb6.mono HB5.out.size))
  clear hb6 H5 HB5
  go_wp2_with fail
  refine (H6.out _).mono ?_
  rintro e w7 ⟨rfl, hb7⟩
  have HB7 := Lib.hid (HB6.out.trans (hb7.mono HB6.out.size))
  clear hb7 H6 HB6
  go_wp2_with fail
  refine (H7.out _).mono ?_
  rintro e w8 ⟨rfl, hb8⟩
  have HB8 := Lib.hid (HB7.out.trans (hb8.mono HB7.out.size))
  clear hb8 H7 HB7
  go_wp2
  go_ret
  exact ⟨rfl, HB8.out⟩
end Go.Proofs.YtjpibaehpmkdmaaDoor.P
