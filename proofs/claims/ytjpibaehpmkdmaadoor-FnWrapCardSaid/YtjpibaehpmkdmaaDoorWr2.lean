/- FnWrap holds: goutils.WrapCustom and the doors, for texts of ASCII. -/
import Derived.Test.YtjpibaehpmkdmaaDoorQ4
import Derived.Test.YtjpibaehpmkdmaaDoorWr1
import Derived.Lib.BufferOld
set_option linter.unusedVariables false
set_option linter.unusedSimpArgs false
namespace Go.Proofs.YtjpibaehpmkdmaaDoor.P
open Go.RowKit Go.Proofs.YtjpibaehpmkdmaaDoorW.PrintWords Go.Proofs.YtjpibaehpmkdmaaDoorW.PrintLast Go.Proofs.YtjpibaehpmkdmaaDoorW.PrintMore

theorem one_bytes (l : List UInt8) : ∀ v ∈ Lib.byteCells l, v.oneCell' = true := fun v hv => by
  obtain ⟨x, _, rfl⟩ := List.mem_map.1 hv
  rfl
theorem bytes_app (a b : ByteArray) : Lib.byteCells a.data.toList ++ Lib.byteCells b.data.toList = Lib.byteCells (a ++ b).data.toList := by
  rw [append_list]
  unfold Lib.byteCells
  rw [List.map_append]
theorem bytes_len (a : ByteArray) : (Lib.byteCells a.data.toList).length = a.size := by
  unfold Lib.byteCells
  rw [List.length_map, size_list]
set_option maxHeartbeats 1600000 in
set_option maxRecDepth 100000 in
theorem idxRune_call (p : ByteArray) (ha : ascii p) (hs : p.size ≤ 500) (w : World) :
    Calls Tryd.prog 97 #[.string p, .int .i32 32] w fun e w' => e = .returned (.int .i64 (fb p p.size 0)) ∧ Below w.heap.size w w' := by
  have HA := Lib.hid ha
  have HB := Lib.hid (fun o => (Below.refl w.heap.size w).alloc (Nat.le_refl _) o)
  obtain ⟨R, hR⟩ : ∃ R, R = fb p p.size 0 := ⟨_, rfl⟩
  have HR := Lib.hid hR
  rw [← hR]
  clear ha hR
  go_enter Tryd.func97, Tryd.ntmps97
  go_wp2
  go_loopw [5, 6] (fun y z wr => ∃ (k : Nat) (yv zv : Value), wr = w.iter p k ∧ yv = y ∧ zv = z ∧ k ≤ p.size ∧ Hid (R = fb p (p.size - k) k)) (fun _ _ wr => p.size - wr.iterPos w.heap.size)
  case atStart => exact ⟨0, _, _, rfl, rfl, rfl, Nat.zero_le _, HR⟩
  case round =>
    obtain ⟨k, yv, zv, rfl, rfl, rfl, hk, hX⟩ := hrel
    by_cases ck : k < p.size
    · have hnx : ∀ ty, (Instr.next (.pointer (some ⟨w.heap.size, 0, none⟩)) true ty).run Tryd.prog (w.iter p k) = _ := fun ty => run_next_any w p k ty ck
      have hlt : (p[k]'ck).toNat < 128 := by have := HA.out k ck; rw [bt_nat p k ck] at this; omega
      rw [decode_ascii p k ck hlt] at hnx
      have hX1 := hX.out
      obtain ⟨q, hq⟩ : ∃ q, p.size - k = q + 1 := ⟨p.size - k - 1, by omega⟩
      rw [hq] at hX1
      unfold fb at hX1
      obtain ⟨m, hm⟩ : ∃ m, m = bt p (k : Int) := ⟨_, rfl⟩
      have hmv : (((p[k]'ck).toNat : Nat) : Int) = m := by rw [hm, bt_nat p k ck]
      rw [← hm] at hX1
      simp only [hmv] at hnx
      clear hm hmv hlt hX
      by_cases hrm : m = 32
      · rw [if_pos hrm] at hX1
        subst hrm hX1
        clear hq
        go_wp2
        go_ret
        exact ⟨rfl, HB.out _⟩
      · rw [if_neg hrm] at hX1
        have HX := Lib.hid (show R = fb p (p.size - (k + 1)) (k + 1) by rw [show p.size - (k + 1) = q by omega]; exact hX1)
        clear hX1 hq
        go_wp2
        go_roundw
        case rel => exact ⟨k + 1, _, _, rfl, rfl, rfl, by omega, HX⟩
        case measure => simp; omega
    · obtain rfl : k = p.size := by omega
      have hX1 := hX.out
      rw [Nat.sub_self] at hX1
      have hX2 : R = -1 := hX1
      subst hX2
      clear hX1 hX
      have hnx := fun ty => run_next_end (P := Tryd.prog) w p p.size ty (Nat.lt_irrefl _)
      go_wp2
      go_ret
      exact ⟨rfl, HB.out _⟩
set_option maxHeartbeats 1600000 in
set_option maxRecDepth 100000 in
theorem wrapCustom_call (s : ByteArray) (a : Int) (e : ByteArray) (cut : Bool) (ha : ascii s) (hs : s.size ≤ 500) (ha0 : -1000000 ≤ a) (ha1 : a ≤ 1000000) (he : e.size ≤ 20) (w : World) :
    Calls Tryd.prog 78 #[.string s, .int .i64 a, .string e, .bool cut] w fun e' w' => e' = .returned (.string (wra (wideOf a) (endOf e) cut s.size s)) ∧ Below w.heap.size w w' := by
  by_cases hs0 : s = ⟨#[]⟩
  · subst hs0
    rw [wr_nil]
    go_enter Tryd.func78, Tryd.ntmps78
    go_wp2
    go_ret
    exact ⟨rfl, Below.refl _ _⟩
  have hne := full_text hs0
  have HA := Lib.hid ha
  obtain ⟨m, hm⟩ : ∃ m, m = wideOf a := ⟨_, rfl⟩
  obtain ⟨E, hE⟩ : ∃ E, E = endOf e := ⟨_, rfl⟩
  have hm1 : 1 ≤ m := by rw [hm]; unfold wideOf; split <;> omega
  have hm2 : m ≤ 1000000 := by rw [hm]; unfold wideOf; split <;> omega
  have hE2 : E.size ≤ 20 := by rw [hE]; unfold endOf; split; decide; exact he
  have HMW := Lib.hid hm
  have HEW := Lib.hid hE
  obtain ⟨R, hR⟩ : ∃ R, R = wra m E cut s.size s := ⟨_, rfl⟩
  rw [← hm, ← hE, ← hR]
  have HR0 := Lib.hid (show (⟨#[]⟩ : ByteArray) ++ wra m E cut s.size (s.extract 0 s.size) = R by rw [nil_app, hR]; congr 1; apply ba_ext; rw [extract_list, List.drop_zero, Nat.sub_zero]; exact List.take_of_length_le (by rw [size_list]; exact Nat.le_refl _))
  have HBF := Lib.hid (Lib.fresh_isBuffer 115 5 w)
  have HBB := Lib.hid ((Below.refl w.heap.size w).alloc (Nat.le_refl _) (.cells #[.slice none 0 0, .int .i64 0, .int .i8 0] 115))
  clear hm hE hR ha hs0
  have HE1 := Lib.hid (show e = ⟨#[]⟩ → Value.string ⟨#[10]⟩ = Value.string E from fun h => by rw [HEW.out, h]; rfl)
  have HE2 := Lib.hid (show ¬ e = ⟨#[]⟩ → Value.string e = Value.string E from fun h2 => by rw [HEW.out]; unfold endOf; rw [if_neg (fun h => h2 (nil_of_size h))])
  have HW1 := Lib.hid (show a < 1 → Value.int .i64 1 = Value.int .i64 (m : Int) from fun h1 => by rw [HMW.out]; unfold wideOf; rw [if_pos h1]; rfl)
  have HW2 := Lib.hid (show ¬ a < 1 → Value.int .i64 a = Value.int .i64 (m : Int) from fun h1 => by rw [HMW.out]; unfold wideOf; rw [if_neg h1]; congr 1; omega)
  clear HMW HEW he ha0 ha1
  go_enter Tryd.func78, Tryd.ntmps78
  go_upto_if 20 with (fail)
  go_cut [2] (fun v2 wc => v2 = .string E ∧ w = wc)
  case first =>
    by_cases h2 : e = ⟨#[]⟩
    · have HX := Lib.hid (HE1.out h2)
      have hne2 : e.toList.isEmpty = true := by rw [h2, ByteArray.toList_eq]; rfl
      clear h2
      rw [hne2]
      go_wp2
      go_meet
      case rel => exact ⟨HX.out, rfl⟩
    · have hne2 := full_text h2
      have HX := Lib.hid (HE2.out h2)
      clear h2
      rw [hne2]
      go_wp2
      go_meet
      case rel => exact ⟨HX.out, rfl⟩
  case rest =>
    obtain ⟨rfl, rfl⟩ := hcut
    clear HE1 HE2
    go_upto_if 22 with (fail)
    go_cut [1] (fun v1 wc => v1 = .int .i64 (m : Int) ∧ w = wc)
    case first =>
      by_cases h1 : a < 1
      · have HX := Lib.hid (HW1.out h1)
        go_wp2
        go_meet
        case rel => exact ⟨HX.out, rfl⟩
      · have HX := Lib.hid (HW2.out h1)
        go_wp2
        go_meet
        case rel => exact ⟨HX.out, rfl⟩
    case rest =>
      obtain ⟨rfl, rfl⟩ := hcut
      clear HW1 HW2
      go_wp2
      go_loopw [10, 12, 13, 14, 15, 16] (fun off y1 y2 y3 y4 y5 wr => ∃ (at_ n : Nat) (o : ByteArray) (z1 z2 z3 z4 z5 : Value), off = .int .i64 at_ ∧ z1 = y1 ∧ z2 = y2 ∧ z3 = y3 ∧ z4 = y4 ∧ z5 = y5 ∧ at_ ≤ s.size ∧ Hid (s.size - at_ ≤ n) ∧ Hid (o ++ wra m E cut n (s.extract at_ s.size) = R) ∧ Hid (o.size ≤ 21 * at_) ∧ Hid (Lib.IsBuffer 115 5 w.heap.size w.heap.size (Lib.byteCells o.data.toList) wr) ∧ Hid (Below w.heap.size w wr)) (fun off _ _ _ _ _ _ => s.size - (intOf off).toNat)
      case atStart => exact ⟨0, s.size, ⟨#[]⟩, _, _, _, _, _, rfl, rfl, rfl, rfl, rfl, rfl, Nat.zero_le _, Lib.hid (Nat.le_refl _), HR0, Lib.hid (Nat.zero_le _), HBF, HBB⟩
      case round =>
        clear HBF HBB HR0
        obtain ⟨at_, n, o, z1, z2, z3, z4, z5, rfl, rfl, rfl, rfl, rfl, rfl, hat, HN, hO, HOS, hI, hB⟩ := hrel
        by_cases c : at_ + m < s.size
        · obtain ⟨n, rfl⟩ : ∃ n', n = n' + 1 := ⟨n - 1, by have := HN.out; omega⟩
          have hcI : (m : Int) < (s.size : Int) - (at_ : Int) := by omega
          have hat1 : at_ < s.size := by omega
          have HNX := Lib.hid (fun (k : Nat) (p : ByteArray) (hst : wst m E cut (s.extract at_ s.size) = (p, k)) (hk : at_ + k ≤ s.size) => show (o ++ p) ++ wra m E cut n (s.extract (at_ + k) s.size) = R by
            have h1 := hO.out
            rw [wr_at c (by rw [hst]; exact hk), hst] at h1
            rw [app_assoc]
            exact h1)
          by_cases hb : bt s (at_ : Int) = 32
          · have H1 := Lib.hid (HNX.out 1 ⟨#[]⟩ (wst_A hat1 hb) (by omega))
            have hbv : (((s[at_]'hat1).toNat : Nat) : Int) = 32 := by rw [← bt_nat s at_ hat1]; exact hb
            have HO1 := Lib.hid (show o ++ wra m E cut n (s.extract (at_ + 1) s.size) = R by have := H1.out; rw [app_nil] at this; exact this)
            have HX2 := Lib.hid (show at_ + 1 ≤ s.size ∧ s.size - (at_ + 1) ≤ n by have := HN.out; omega)
            have HOZ := Lib.hid (show o.size ≤ 21 * (at_ + 1) by have := HOS.out; omega)
            clear HNX hO H1 hb HN HOS
            as_aux_lemma =>
              go_wp2
              go_roundw
              case rel => exact ⟨at_ + 1, n, o, _, _, _, _, _, (congrArg (Value.int .i64) (by omega)), rfl, rfl, rfl, rfl, rfl, HX2.out.1, Lib.hid HX2.out.2, HO1, HOZ, hI, hB⟩
              case measure => simp [intOf]; omega
          · have hrest := wst_rest (cut := cut) (e := E) c hb
            have hbv : ¬ wrap32 (((s[at_]'hat1).toNat : Nat) : Int) = 32 := by
              rw [← bt_nat s at_ hat1]
              have hr := bt_range s at_
              unfold wrap32
              omega
            have hbv2 : ¬ (((s[at_]'hat1).toNat : Nat) : Int) = 32 := by rw [← bt_nat s at_ hat1]; exact hb
            have hsl1 : ∀ W : World, (Instr.slice 9 (.string s) (some (.int .i64 (at_ : Int))) (some (.int .i64 ((m : Int) + (at_ : Int) + 1))) none).run Tryd.prog W = .ok (.string (s.extract at_ (m + at_ + 1))) W := fun W => by
              rw [run_slice_string_if W 9 s .i64 .i64 (at_ : Int) ((m : Int) + (at_ : Int) + 1) Tryd.underlying9, if_pos (by omega), if_pos (by omega)]
              rfl
            have HLI := Lib.hid (fun W => show Calls Tryd.prog 95 #[.string (s.extract at_ (m + at_ + 1)), .string ⟨#[32]⟩] W fun e' w' => e' = .returned (.int .i64 (Lib.lastIndexByte (s.extract at_ (m + at_ + 1)) 32)) ∧ w' = W from Tryd.strings_LastIndex_one (s.extract at_ (m + at_ + 1)) ⟨#[32]⟩ rfl (by rw [ext_size _ _ _ (by omega)]; omega) W)
            have HWS := Lib.hid (fun (W : World) (x t : ByteArray) (hx : x.size ≤ 20000) (ht : t.size ≤ 20000) (h : Lib.IsBuffer 115 5 w.heap.size w.heap.size (Lib.byteCells x.data.toList) W) (hb : Below w.heap.size w W) => show Calls Tryd.prog 96 #[.pointer (some ⟨w.heap.size, 0, none⟩), .string t] W fun e' w' => e' = .returned (.tuple #[.int .i64 t.size, .nilIface]) ∧ Lib.IsBuffer 115 5 w.heap.size w.heap.size (Lib.byteCells (x ++ t).data.toList) w' ∧ Below w.heap.size w w' from by
              refine (Tryd.Buffer_WriteString w.heap.size w.heap.size _ t W h hb.size (one_bytes _) (by rw [bytes_len]; omega)).mono ?_
              rintro e' w' ⟨h1, h2, h3⟩
              rw [bytes_app] at h2
              exact ⟨h1, h2, hb.trans h3⟩)
            have hsz : ∀ a b : Nat, b ≤ s.size → (s.extract a b).size ≤ 500 := fun a b h => by rw [ext_size _ _ _ h]; omega
            have HSZ := Lib.hid hsz
            have HO5 := Lib.hid (show o.size ≤ 10500 by have := HOS.out; omega)
            have HE5 := Lib.hid hE2
            clear hb hO hsz hE2
            rcases hrest with ⟨i, him, hK, hst⟩ | ⟨hK, hc1, hc2⟩
            · rw [hK] at HLI
              have HO1 := Lib.hid (HNX.out _ _ hst (by omega))
              have hsl2 : ∀ W : World, (Instr.slice 9 (.string s) (some (.int .i64 (at_ : Int))) (some (.int .i64 ((i : Int) + (at_ : Int)))) none).run Tryd.prog W = .ok (.string (s.extract at_ (at_ + i))) W := fun W => by
                rw [run_slice_string_if W 9 s .i64 .i64 (at_ : Int) ((i : Int) + (at_ : Int)) Tryd.underlying9, if_pos (by omega), if_pos (by omega)]
                rw [show ((i : Int) + (at_ : Int)).toNat = at_ + i by omega]
                rfl
              have hge : (at_ : Int) ≤ (i : Int) + (at_ : Int) := by omega
              have hi500 : (i : Int) ≤ 500 := by omega
              have HX1 := Lib.hid (HSZ.out at_ (at_ + i) (by omega))
              have HX2 := Lib.hid (show at_ + (i + 1) ≤ s.size ∧ s.size - (at_ + (i + 1)) ≤ n by have := HN.out; omega)
              have HOZ := Lib.hid (show ((o ++ s.extract at_ (at_ + i)) ++ E).size ≤ 21 * (at_ + (i + 1)) by
                rw [app_size, app_size, ext_size _ _ _ (by omega)]
                have := HOS.out
                have := HE5.out
                omega)
              clear hK hst HNX him HSZ HN HOS
              as_aux_lemma =>
                go_wp2_with fail
                try rw [if_neg hbv]
                refine (HLI.out _).mono ?_
                rintro e' w2 ⟨rfl, rfl⟩
                clear HLI hsl1
                go_wp2_with fail
                refine (HWS.out _ o (s.extract at_ (at_ + i)) (by have := HO5.out; omega) (by have := HX1.out; omega) hI.out hB.out).mono ?_
                rintro e' w3 ⟨rfl, hi3, hb3⟩
                have HI3 := Lib.hid hi3
                have HB3 := Lib.hid hb3
                clear hi3 hb3 hI hB hsl2
                go_wp2_with fail
                refine (HWS.out _ (o ++ s.extract at_ (at_ + i)) E (by rw [app_size]; have := HX1.out; have := HO5.out; omega) (by have := HE5.out; omega) HI3.out HB3.out).mono ?_
                rintro e' w4 ⟨rfl, hi4, hb4⟩
                have HI4 := Lib.hid hi4
                have HB4 := Lib.hid hb4
                rw [← app_assoc] at HO1
                clear hi4 hb4 HI3 HB3 HWS
                go_wp2
                go_roundw
                case rel => exact ⟨at_ + (i + 1), n, (o ++ s.extract at_ (at_ + i)) ++ E, _, _, _, _, _, (congrArg (Value.int .i64) (by omega)), rfl, rfl, rfl, rfl, rfl, HX2.out.1, Lib.hid HX2.out.2, HO1, HOZ, HI4, HB4⟩
                case measure => simp [intOf]; omega
            · rw [hK] at HLI
              have hlt : ¬ ((at_ : Int) ≤ -1 + (at_ : Int)) := by omega
              have hsl3 : ∀ W : World, (Instr.slice 9 (.string s) (some (.int .i64 (at_ : Int))) (some (.int .i64 ((m : Int) + (at_ : Int)))) none).run Tryd.prog W = .ok (.string (s.extract at_ (at_ + m))) W := fun W => by
                rw [run_slice_string_if W 9 s .i64 .i64 (at_ : Int) ((m : Int) + (at_ : Int)) Tryd.underlying9, if_pos (by omega), if_pos (by omega)]
                rw [show ((m : Int) + (at_ : Int)).toNat = at_ + m by omega]
                rfl
              have hsl4 : ∀ W : World, (Instr.slice 9 (.string s) (some (.int .i64 ((m : Int) + (at_ : Int)))) (some (.int .i64 (s.size : Int))) none).run Tryd.prog W = .ok (.string (s.extract (m + at_) s.size)) W := fun W => by
                rw [run_slice_string_if W 9 s .i64 .i64 ((m : Int) + (at_ : Int)) (s.size : Int) Tryd.underlying9, if_pos (by omega), if_pos (by omega)]
                rw [show ((m : Int) + (at_ : Int)).toNat = m + at_ by omega]
                rfl
              have hsl5 : ∀ W : World, (Instr.slice 9 (.string s) (some (.int .i64 (at_ : Int))) (some (.int .i64 (s.size : Int))) none).run Tryd.prog W = .ok (.string (s.extract at_ s.size)) W := fun W => by
                rw [run_slice_string_if W 9 s .i64 .i64 (at_ : Int) (s.size : Int) Tryd.underlying9, if_pos (by omega), if_pos (by omega)]
                rfl
              clear hK
              cases cut with
              | true =>
                have HO1 := Lib.hid (HNX.out _ _ (hc1 rfl) (by omega))
                have HX1 := Lib.hid (HSZ.out at_ (at_ + m) (by omega))
                have HX2 := Lib.hid (show at_ + m ≤ s.size ∧ s.size - (at_ + m) ≤ n by have := HN.out; omega)
                have HOZ := Lib.hid (show ((o ++ s.extract at_ (at_ + m)) ++ E).size ≤ 21 * (at_ + m) by
                  rw [app_size, app_size, ext_size _ _ _ (by omega)]
                  have := HOS.out
                  have := HE5.out
                  omega)
                clear hc1 hc2 HNX hsl4 hsl5 HSZ HN HOS
                as_aux_lemma =>
                  go_wp2_with fail
                  try rw [if_neg hbv]
                  refine (HLI.out _).mono ?_
                  rintro e' w2 ⟨rfl, rfl⟩
                  clear HLI hsl1
                  go_wp2_with fail
                  refine (HWS.out _ o (s.extract at_ (at_ + m)) (by have := HO5.out; omega) (by have := HX1.out; omega) hI.out hB.out).mono ?_
                  rintro e' w3 ⟨rfl, hi3, hb3⟩
                  have HI3 := Lib.hid hi3
                  have HB3 := Lib.hid hb3
                  clear hi3 hb3 hI hB hsl3
                  go_wp2_with fail
                  refine (HWS.out _ (o ++ s.extract at_ (at_ + m)) E (by rw [app_size]; have := HX1.out; have := HO5.out; omega) (by have := HE5.out; omega) HI3.out HB3.out).mono ?_
                  rintro e' w4 ⟨rfl, hi4, hb4⟩
                  have HI4 := Lib.hid hi4
                  have HB4 := Lib.hid hb4
                  rw [← app_assoc] at HO1
                  clear hi4 hb4 HI3 HB3 HWS
                  go_wp2
                  go_roundw
                  case rel => exact ⟨at_ + m, n, (o ++ s.extract at_ (at_ + m)) ++ E, _, _, _, _, _, (congrArg (Value.int .i64) (by omega)), rfl, rfl, rfl, rfl, rfl, HX2.out.1, Lib.hid HX2.out.2, HO1, HOZ, HI4, HB4⟩
                  case measure => simp [intOf]; omega
              | false =>
                have HIX := Lib.hid (fun W => idxRune_call (s.extract (m + at_) s.size) (fun q hq => by
                  rw [bt_ext s (m + at_) s.size q (by rw [ext_size _ _ _ (Nat.le_refl _)] at hq; omega)]
                  exact HA.out _ (by rw [ext_size _ _ _ (Nat.le_refl _)] at hq; omega)) (by rw [ext_size _ _ _ (Nat.le_refl _)]; omega) W)
                rw [show (s.extract (m + at_) s.size).size = s.size - (m + at_) from ext_size _ _ _ (Nat.le_refl _)] at HIX
                rcases hc2 rfl with ⟨hF, hst⟩ | ⟨i, hF, hil, hst⟩
                · rw [hF] at HIX
                  have HO1 := Lib.hid (HNX.out _ _ hst (by omega))
                  have HX1 := Lib.hid (HSZ.out at_ s.size (Nat.le_refl _))
                  have HX2 := Lib.hid (show at_ + (s.size - at_) ≤ s.size ∧ s.size - (at_ + (s.size - at_)) ≤ n by omega)
                  have HOZ := Lib.hid (show (o ++ s.extract at_ s.size).size ≤ 21 * (at_ + (s.size - at_)) by
                    rw [app_size, ext_size _ _ _ (by omega)]
                    have := HOS.out
                    omega)
                  clear hc1 hc2 HNX hsl3 hst hF HSZ HN HOS
                  as_aux_lemma =>
                    go_wp2_with fail
                    try rw [if_neg hbv]
                    refine (HLI.out _).mono ?_
                    rintro e' w2 ⟨rfl, rfl⟩
                    clear HLI hsl1
                    go_wp2_with fail
                    refine (HIX.out _).mono ?_
                    rintro e' w3 ⟨rfl, hb3⟩
                    have HB3 := Lib.hid (hB.out.trans (hb3.mono hB.out.size))
                    have HI3 := Lib.hid (show Lib.IsBuffer 115 5 w.heap.size w.heap.size (Lib.byteCells o.data.toList) w3 from Lib.IsBuffer.old hI.out hb3)
                    clear hb3 hB hI HIX
                    go_wp2_with fail
                    refine (HWS.out _ o (s.extract at_ s.size) (by have := HO5.out; omega) (by have := HX1.out; omega) HI3.out HB3.out).mono ?_
                    rintro e' w4 ⟨rfl, hi4, hb4⟩
                    have HI4 := Lib.hid hi4
                    have HB4 := Lib.hid hb4
                    clear hi4 hb4 HI3 HB3 HWS
                    go_wp2
                    go_roundw
                    case rel => exact ⟨at_ + (s.size - at_), n, o ++ s.extract at_ s.size, _, _, _, _, _, by (rw [show at_ + (s.size - at_) = s.size by omega]), rfl, rfl, rfl, rfl, rfl, HX2.out.1, Lib.hid HX2.out.2, HO1, HOZ, HI4, HB4⟩
                    case measure => simp [intOf]; omega
                · rw [hF] at HIX
                  have HO1 := Lib.hid (HNX.out _ _ hst (by omega))
                  have hsl6 : ∀ W : World, (Instr.slice 9 (.string s) (some (.int .i64 (at_ : Int))) (some (.int .i64 ((i : Int) + ((m : Int) + (at_ : Int))))) none).run Tryd.prog W = .ok (.string (s.extract at_ (i + m + at_))) W := fun W => by
                    rw [run_slice_string_if W 9 s .i64 .i64 (at_ : Int) ((i : Int) + ((m : Int) + (at_ : Int))) Tryd.underlying9, if_pos (by omega), if_pos (by omega)]
                    rw [show ((i : Int) + ((m : Int) + (at_ : Int))).toNat = i + m + at_ by omega]
                    rfl
                  have hne : ¬ (i : Int) = -1 := by omega
                  have HX1 := Lib.hid (HSZ.out at_ (i + m + at_) (by omega))
                  have HX2 := Lib.hid (show at_ + (i + m + 1) ≤ s.size ∧ s.size - (at_ + (i + m + 1)) ≤ n by have := HN.out; omega)
                  have HOZ := Lib.hid (show ((o ++ s.extract at_ (i + m + at_)) ++ E).size ≤ 21 * (at_ + (i + m + 1)) by
                    rw [app_size, app_size, ext_size _ _ _ (by omega)]
                    have := HOS.out
                    have := HE5.out
                    omega)
                  have hi500 : (i : Int) ≤ 500 := by omega
                  clear hc1 hc2 HNX hsl3 hst hF hsl5 hil HSZ HN HOS
                  as_aux_lemma =>
                    go_wp2_with fail
                    try rw [if_neg hbv]
                    refine (HLI.out _).mono ?_
                    rintro e' w2 ⟨rfl, rfl⟩
                    clear HLI hsl1
                    go_wp2_with fail
                    refine (HIX.out _).mono ?_
                    rintro e' w3 ⟨rfl, hb3⟩
                    have HB3 := Lib.hid (hB.out.trans (hb3.mono hB.out.size))
                    have HI3 := Lib.hid (show Lib.IsBuffer 115 5 w.heap.size w.heap.size (Lib.byteCells o.data.toList) w3 from Lib.IsBuffer.old hI.out hb3)
                    clear hb3 hB hI HIX hsl4
                    go_wp2_with fail
                    refine (HWS.out _ o (s.extract at_ (i + m + at_)) (by have := HO5.out; omega) (by have := HX1.out; omega) HI3.out HB3.out).mono ?_
                    rintro e' w4 ⟨rfl, hi4, hb4⟩
                    have HI4 := Lib.hid hi4
                    have HB4 := Lib.hid hb4
                    clear hi4 hb4 HI3 HB3 hsl6
                    go_wp2_with fail
                    refine (HWS.out _ (o ++ s.extract at_ (i + m + at_)) E (by rw [app_size]; have := HX1.out; have := HO5.out; omega) (by have := HE5.out; omega) HI4.out HB4.out).mono ?_
                    rintro e' w5 ⟨rfl, hi5, hb5⟩
                    have HI5 := Lib.hid hi5
                    have HB5 := Lib.hid hb5
                    rw [← app_assoc] at HO1
                    clear hi5 hb5 HI4 HB4 HWS
                    go_wp2
                    go_roundw
                    case rel => exact ⟨at_ + (i + m + 1), n, (o ++ s.extract at_ (i + m + at_)) ++ E, _, _, _, _, _, (congrArg (Value.int .i64) (by omega)), rfl, rfl, rfl, rfl, rfl, HX2.out.1, Lib.hid HX2.out.2, HO1, HOZ, HI5, HB5⟩
                    case measure => simp [intOf]; omega
        · have hcI : ¬ (m : Int) < (s.size : Int) - (at_ : Int) := by omega
          have HF := Lib.hid (show o ++ s.extract at_ s.size = R by
            have h1 := hO.out
            cases n with
            | zero => exact h1
            | succ n =>
              have h2 : wra m E cut (n + 1) (s.extract at_ s.size) = s.extract at_ s.size := by
                show (if m < (s.extract at_ s.size).size then _ else _) = _
                rw [if_neg (by rw [ext_size _ _ _ (Nat.le_refl _)]; omega)]
              rw [h2] at h1
              exact h1)
          have hsl5 : ∀ W : World, (Instr.slice 9 (.string s) (some (.int .i64 (at_ : Int))) (some (.int .i64 (s.size : Int))) none).run Tryd.prog W = .ok (.string (s.extract at_ s.size)) W := fun W => by
            rw [run_slice_string_if W 9 s .i64 .i64 (at_ : Int) (s.size : Int) Tryd.underlying9, if_pos (by omega), if_pos (by omega)]
            rfl
          have HW1 := Lib.hid (show Calls Tryd.prog 96 #[.pointer (some ⟨w.heap.size, 0, none⟩), .string (s.extract at_ s.size)] wr fun e' w' => e' = .returned (.tuple #[.int .i64 (s.extract at_ s.size).size, .nilIface]) ∧ Lib.IsBuffer 115 5 w.heap.size w.heap.size (Lib.byteCells R.data.toList) w' ∧ Below w.heap.size w w' from by
            refine (Tryd.Buffer_WriteString w.heap.size w.heap.size _ (s.extract at_ s.size) wr hI.out hB.out.size (one_bytes _) (by rw [bytes_len, ext_size _ _ _ (Nat.le_refl _)]; have := HOS.out; omega)).mono ?_
            rintro e' w' ⟨h1, h2, h3⟩
            rw [bytes_app, HF.out] at h2
            exact ⟨h1, h2, hB.out.trans h3⟩)
          clear hO hI hB HN HOS
          as_aux_lemma =>
            go_wp2_with fail
            refine HW1.out.mono ?_
            rintro e' w2 ⟨rfl, hi2, hb2⟩
            have HS := Lib.hid (Tryd.Buffer_String w.heap.size w.heap.size R.data.toList w2 hi2)
            have HB2 := Lib.hid hb2
            clear hi2 hb2 HW1 hsl5
            go_wp2_with fail
            refine HS.out.mono ?_
            rintro e' w3 ⟨rfl, q, rfl⟩
            have HB3 := Lib.hid (pw_below_drewN HB2.out q)
            clear HS HB2
            generalize w2.drewN q = w9 at *
            go_wp2
            go_ret
            exact ⟨rfl, HB3.out⟩
set_option maxHeartbeats 1600000 in
set_option maxRecDepth 100000 in
theorem wrap0 (s : ByteArray) (a : Int) (ha : ascii s) (hs : s.size ≤ 500) (ha0 : -1000000 ≤ a) (ha1 : a ≤ 1000000) (w : World) :
    Calls Tryd.prog 77 #[.string s, .int .i64 a] w fun e' w' => e' = .returned (.string (wra (wideOf a) (endOf ⟨#[]⟩) false s.size s)) ∧ Below w.heap.size w w' := by
  have HC := Lib.hid (wrapCustom_call s a ⟨#[]⟩ false ha hs ha0 ha1 (by decide) w)
  generalize wra (wideOf a) (endOf ⟨#[]⟩) false s.size s = r at *
  clear ha
  go_enter Tryd.func77, Tryd.ntmps77
  go_wp2_with fail
  refine HC.out.mono ?_
  rintro e' w1 ⟨rfl, hb1⟩
  have HB1 := Lib.hid hb1
  clear hb1 HC
  go_wp2
  go_ret
  exact ⟨rfl, HB1.out⟩
set_option maxHeartbeats 1600000 in
set_option maxRecDepth 100000 in
theorem wrap1 (s : ByteArray) (a : Int) (ha : ascii s) (hs : s.size ≤ 500) (ha0 : -1000000 ≤ a) (ha1 : a ≤ 1000000) (w : World) :
    Calls Tryd.prog 57 #[.int .i64 a, .string s] w fun e' w' => e' = .returned (.string (wra (wideOf a) (endOf ⟨#[]⟩) false s.size s)) ∧ Below w.heap.size w w' := by
  have HC := Lib.hid (wrap0 s a ha hs ha0 ha1 w)
  generalize wra (wideOf a) (endOf ⟨#[]⟩) false s.size s = r at *
  clear ha
  go_enter Tryd.func57, Tryd.ntmps57
  go_wp2_with fail
  refine HC.out.mono ?_
  rintro e' w1 ⟨rfl, hb1⟩
  have HB1 := Lib.hid hb1
  clear hb1 HC
  go_wp2
  go_ret
  exact ⟨rfl, HB1.out⟩
set_option maxHeartbeats 1600000 in
set_option maxRecDepth 100000 in
theorem wrap2 (s : ByteArray) (a : Int) (ha : ascii s) (hs : s.size ≤ 500) (ha0 : -1000000 ≤ a) (ha1 : a ≤ 1000000) (w : World) :
    Calls Tryd.prog 39 #[.int .i64 a, .string s] w fun e' w' => e' = .returned (.string (wra (wideOf a) (endOf ⟨#[]⟩) false s.size s)) ∧ Below w.heap.size w w' := by
  have HC := Lib.hid (wrap1 s a ha hs ha0 ha1 w)
  generalize wra (wideOf a) (endOf ⟨#[]⟩) false s.size s = r at *
  clear ha
  go_enter Tryd.func39, Tryd.ntmps39
  go_wp2_with fail
  refine HC.out.mono ?_
  rintro e' w1 ⟨rfl, hb1⟩
  have HB1 := Lib.hid hb1
  clear hb1 HC
  go_wp2
  go_ret
  exact ⟨rfl, HB1.out⟩
set_option maxHeartbeats 1600000 in
set_option maxRecDepth 100000 in
theorem wrap3 (s : ByteArray) (a : Int) (ha : ascii s) (hs : s.size ≤ 500) (ha0 : -1000000 ≤ a) (ha1 : a ≤ 1000000) (w : World) :
    Calls Tryd.prog 15 #[.int .i64 a, .string s] w fun e' w' => e' = .returned (.string (wra (wideOf a) (endOf ⟨#[]⟩) false s.size s)) ∧ Below w.heap.size w w' := by
  have HC := Lib.hid (wrap2 s a ha hs ha0 ha1 w)
  generalize wra (wideOf a) (endOf ⟨#[]⟩) false s.size s = r at *
  clear ha
  go_enter Tryd.func15, Tryd.ntmps15
  go_wp2_with fail
  refine HC.out.mono ?_
  rintro e' w1 ⟨rfl, hb1⟩
  have HB1 := Lib.hid hb1
  clear hb1 HC
  go_wp2
  go_ret
  exact ⟨rfl, HB1.out⟩
set_option maxHeartbeats 1600000 in
set_option maxRecDepth 100000 in
theorem with1 (e : ByteArray) (he : e.size ≤ 20) (s : ByteArray) (a : Int) (ha : ascii s) (hs : s.size ≤ 500) (ha0 : -1000000 ≤ a) (ha1 : a ≤ 1000000) (w : World) :
    Calls Tryd.prog 58 #[.int .i64 a, .string e, .string s] w fun e' w' => e' = .returned (.string (wra (wideOf a) (endOf e) true s.size s)) ∧ Below w.heap.size w w' := by
  have HC := Lib.hid (wrapCustom_call s a e true ha hs ha0 ha1 he w)
  generalize wra (wideOf a) (endOf e) true s.size s = r at *
  clear ha
  go_enter Tryd.func58, Tryd.ntmps58
  go_wp2_with fail
  refine HC.out.mono ?_
  rintro e' w1 ⟨rfl, hb1⟩
  have HB1 := Lib.hid hb1
  clear hb1 HC
  go_wp2
  go_ret
  exact ⟨rfl, HB1.out⟩
set_option maxHeartbeats 1600000 in
set_option maxRecDepth 100000 in
theorem with2 (e : ByteArray) (he : e.size ≤ 20) (s : ByteArray) (a : Int) (ha : ascii s) (hs : s.size ≤ 500) (ha0 : -1000000 ≤ a) (ha1 : a ≤ 1000000) (w : World) :
    Calls Tryd.prog 42 #[.int .i64 a, .string e, .string s] w fun e' w' => e' = .returned (.string (wra (wideOf a) (endOf e) true s.size s)) ∧ Below w.heap.size w w' := by
  have HC := Lib.hid (with1 e he s a ha hs ha0 ha1 w)
  generalize wra (wideOf a) (endOf e) true s.size s = r at *
  clear ha
  go_enter Tryd.func42, Tryd.ntmps42
  go_wp2_with fail
  refine HC.out.mono ?_
  rintro e' w1 ⟨rfl, hb1⟩
  have HB1 := Lib.hid hb1
  clear hb1 HC
  go_wp2
  go_ret
  exact ⟨rfl, HB1.out⟩
set_option maxHeartbeats 1600000 in
set_option maxRecDepth 100000 in
theorem with3 (e : ByteArray) (he : e.size ≤ 20) (s : ByteArray) (a : Int) (ha : ascii s) (hs : s.size ≤ 500) (ha0 : -1000000 ≤ a) (ha1 : a ≤ 1000000) (w : World) :
    Calls Tryd.prog 17 #[.int .i64 a, .string e, .string s] w fun e' w' => e' = .returned (.string (wra (wideOf a) (endOf e) true s.size s)) ∧ Below w.heap.size w w' := by
  have HC := Lib.hid (with2 e he s a ha hs ha0 ha1 w)
  generalize wra (wideOf a) (endOf e) true s.size s = r at *
  clear ha
  go_enter Tryd.func17, Tryd.ntmps17
  go_wp2_with fail
  refine HC.out.mono ?_
  rintro e' w1 ⟨rfl, hb1⟩
  have HB1 := Lib.hid hb1
  clear hb1 HC
  go_wp2
  go_ret
  exact ⟨rfl, HB1.out⟩
set_option maxHeartbeats 1600000 in
set_option maxRecDepth 100000 in
theorem far9_call (n : Int) : ∃ b : Bool, (b = false → -1000000 ≤ n ∧ n ≤ 1000000) ∧ ∀ w : World, Calls Tryd.prog 14 #[.int .i64 n] w fun e w' => e = .returned (.bool b) ∧ w' = w := by
  by_cases h1 : n < -1000000
  · refine ⟨true, fun h => (by cases h), fun w => ?_⟩
    go_enter Tryd.func14, Tryd.ntmps14
    go_wp2
    go_ret
    exact ⟨rfl, rfl⟩
  · by_cases h2 : 1000000 < n
    · refine ⟨true, fun h => (by cases h), fun w => ?_⟩
      go_enter Tryd.func14, Tryd.ntmps14
      go_wp2
      go_ret
      exact ⟨rfl, rfl⟩
    · refine ⟨false, fun _ => ⟨by omega, by omega⟩, fun w => ?_⟩
      go_enter Tryd.func14, Tryd.ntmps14
      go_wp2
      go_ret
      exact ⟨rfl, rfl⟩
theorem tx_wrap : wra (wideOf 1) (endOf ⟨#[]⟩) false (⟨#[97, 32, 98]⟩ : ByteArray).size ⟨#[97, 32, 98]⟩ = ⟨#[97, 10, 98]⟩ := by apply ba_ext; decide +kernel
theorem a_b_ascii : ascii ⟨#[97, 32, 98]⟩ := by
  intro i hi
  have h : ∀ j : Fin 3, bt ⟨#[97, 32, 98]⟩ ((j.val : Nat) : Int) < 128 := by decide +kernel
  exact h ⟨i, hi⟩
set_option maxHeartbeats 1600000 in
set_option maxRecDepth 100000 in
theorem fnWrap (a : Int) (e s : ByteArray) (w : World) (_hwf : (Lit.int IntKind.i64 a).wf = true) (he0 : e.size ≤ 140737488351232) (hs0 : s.size ≤ 140737488351232) :
    Calls Tryd.prog 4 #[.int .i64 a, .string e, .string s] w fun e' w' => e' = .returned (.bool true) ∧ Below w.heap.size w w' := by
  have HB := Lib.hid (Below.refl w.heap.size w)
  by_cases c0 : 2147483647 < (e.size : Int)
  · have d0 : decide (2147483647 < (e.size : Int)) = true := decide_eq_true c0
    go_enter Tryd.func4, Tryd.ntmps4
    go_wp2
    go_ret
    exact ⟨rfl, HB.out⟩
  have d0 : decide (2147483647 < (e.size : Int)) = false := decide_eq_false c0
  by_cases c1 : 2147483647 < (s.size : Int)
  · have d1 : decide (2147483647 < (s.size : Int)) = true := decide_eq_true c1
    go_enter Tryd.func4, Tryd.ntmps4
    go_wp2
    go_ret
    exact ⟨rfl, HB.out⟩
  have d1 : decide (2147483647 < (s.size : Int)) = false := decide_eq_false c1
  obtain ⟨b, hb, h9⟩ := plain9_call s
  have H9 := Lib.hid h9
  have HBA := Lib.hid ((Below.refl w.heap.size w).alloc (Nat.le_refl _) (.cells #[.string s] 9))
  cases b with
  | false =>
    clear hb h9
    go_enter Tryd.func4, Tryd.ntmps4
    go_wp2_with fail
    refine (H9.out _ _ _ (by rw [blk_cell (heap_alloc_new w (.cells #[.string s] 9)) 0]; rfl)).mono ?_
    rintro e' w1 ⟨rfl, hb1⟩
    have HB1 := Lib.hid (HBA.out.trans (hb1.mono (by simp)))
    clear hb1 H9 HBA
    go_wp2
    go_ret
    exact ⟨rfl, HB1.out⟩
  | true =>
  obtain ⟨h5, ha⟩ := hb rfl
  by_cases c8 : 20 < (e.size : Int)
  · have d8 : decide (20 < (e.size : Int)) = true := decide_eq_true c8
    have d8' : decide (20 < e.size) = true := decide_eq_true (by omega)
    clear hb h9 ha h5
    go_enter Tryd.func4, Tryd.ntmps4
    go_wp2_with fail
    refine (H9.out _ _ _ (by rw [blk_cell (heap_alloc_new w (.cells #[.string s] 9)) 0]; rfl)).mono ?_
    rintro e' w1 ⟨rfl, hb1⟩
    have HB1 := Lib.hid (HBA.out.trans (hb1.mono (by simp)))
    clear hb1 H9 HBA
    go_wp2
    go_ret
    exact ⟨rfl, HB1.out⟩
  have d8 : decide (20 < (e.size : Int)) = false := decide_eq_false c8
  have d8' : decide (20 < e.size) = false := decide_eq_false (by omega)
  have he : e.size ≤ 20 := by omega
  obtain ⟨f, hf, hfc⟩ : ∃ f : Bool, (f = false → -1000000 ≤ a ∧ a ≤ 1000000) ∧ ∀ W : World, Calls Tryd.prog 14 #[.int .i64 a] W fun e' w' => e' = .returned (.bool f) ∧ w' = W := far9_call a
  have HF := Lib.hid hfc
  cases f with
  | true =>
    clear hb h9 ha h5 hf hfc
    go_enter Tryd.func4, Tryd.ntmps4
    go_wp2_with fail
    refine (H9.out _ _ _ (by rw [blk_cell (heap_alloc_new w (.cells #[.string s] 9)) 0]; rfl)).mono ?_
    rintro e' w1 ⟨rfl, hb1⟩
    have HB1 := Lib.hid (HBA.out.trans (hb1.mono (by simp)))
    clear hb1 H9 HBA
    go_wp2_with fail
    refine (HF.out _).mono ?_
    rintro e' w2 ⟨rfl, rfl⟩
    clear HF
    go_wp2
    go_ret
    exact ⟨rfl, HB1.out⟩
  | false =>
  obtain ⟨ha0, ha1⟩ := hf rfl
  have H1 := Lib.hid (fun W => wrap3 s a ha h5 ha0 ha1 W)
  have H2 := Lib.hid (fun W => wrapped_call s a ⟨#[]⟩ false h5 ha1 (by decide) W)
  have H3 := Lib.hid (fun W => with3 e he s a ha h5 ha0 ha1 W)
  have H4 := Lib.hid (fun W => wrapped_call s a e true h5 ha1 he W)
  have H5 := Lib.hid (fun W => wrap3 ⟨#[97, 32, 98]⟩ 1 a_b_ascii (by decide) (by decide) (by decide) W)
  rw [tx_wrap] at H5
  generalize wra (wideOf a) (endOf ⟨#[]⟩) false s.size s = r1 at *
  generalize wra (wideOf a) (endOf e) true s.size s = r2 at *
  clear hb h9 ha h5 hf hfc
  go_enter Tryd.func4, Tryd.ntmps4
  go_wp2_with fail
  refine (H9.out _ _ _ (by rw [blk_cell (heap_alloc_new w (.cells #[.string s] 9)) 0]; rfl)).mono ?_
  rintro e' w0 ⟨rfl, hb1⟩
  have HB1 := Lib.hid (HBA.out.trans (hb1.mono (by simp)))
  clear hb1 H9 HBA
  go_wp2_with fail
  refine (HF.out _).mono ?_
  rintro e' w1 ⟨rfl, rfl⟩
  clear HF
  go_wp2_with fail
  refine (H1.out _).mono ?_
  rintro e' w2 ⟨rfl, hb2⟩
  have HB2 := Lib.hid (HB1.out.trans (hb2.mono HB1.out.size))
  clear hb2 H1 HB1
  go_wp2_with fail
  refine (H2.out _).mono ?_
  rintro e' w3 ⟨rfl, hb3⟩
  have HB3 := Lib.hid (HB2.out.trans (hb3.mono HB2.out.size))
  clear hb3 H2 HB2
  go_wp2_with fail
  refine (H3.out _).mono ?_
  rintro e' w4 ⟨rfl, hb4⟩
  have HB4 := Lib.hid (HB3.out.trans (hb4.mono HB3.out.size))
  clear hb4 H3 HB3
  go_wp2_with fail
  refine (H4.out _).mono ?_
  rintro e' w5 ⟨rfl, hb5⟩
  have HB5 := Lib.hid (HB4.out.trans (hb5.mono HB4.out.size))
  clear hb5 H4 HB4
  go_wp2_with fail
  refine (H5.out _).mono ?_
  rintro e' w6 ⟨rfl, hb6⟩
  have HB6 := Lib.hid (HB5.out.trans (hb6.mono HB5.out.size))
  clear hb6 H5 HB5
  go_wp2
  go_ret
  exact ⟨rfl, HB6.out⟩
end Go.Proofs.YtjpibaehpmkdmaaDoor.P
