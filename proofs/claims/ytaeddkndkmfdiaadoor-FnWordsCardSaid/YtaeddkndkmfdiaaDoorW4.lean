/- spec.Points, spec.NoSpace of a text of ASCII; FnWords holds. -/
import Derived.Test.YtaeddkndkmfdiaaDoorW3
set_option linter.unusedVariables false
set_option linter.unusedSimpArgs false
namespace Go.Proofs.YtaeddkndkmfdiaaDoor.P
open Go.RowKit Go.Proofs.YtaeddkndkmfdiaaDoorW.PrintWords Go.Proofs.YtaeddkndkmfdiaaDoorW.PrintLast Go.Proofs.YtaeddkndkmfdiaaDoorW.PrintMore
/-- Has a text a byte that is none of a character, from place i on? -/
def replGo (s : ByteArray) : Nat → Nat → Bool
  | 0, _ => false
  | b + 1, i => if i < s.size then (if (Utf8.decode s i).1 = 65533 ∧ ((s.size : Int) - i < 3 ∨ ¬ (s.extract i (i + 3)).toList = [239, 191, 189]) then true else replGo s b (i + (Utf8.decode s i).2)) else false
def spec_replaced.f (a0 : ByteArray) : Option Bool := if a0.size ≤ 140737488351232 then some (replGo a0 a0.size 0) else none
theorem replGo_step (s : ByteArray) (b i : Nat) (h : i < s.size) (hn : ¬ ((Utf8.decode s i).1 = 65533 ∧ ((s.size : Int) - i < 3 ∨ ¬ (s.extract i (i + 3)).toList = [239, 191, 189]))) : replGo s (b + 1) i = replGo s b (i + (Utf8.decode s i).2) := by
  rw [replGo, if_pos h, if_neg hn]
theorem replGo_hit (s : ByteArray) (b i : Nat) (h : i < s.size) (hn : (Utf8.decode s i).1 = 65533 ∧ ((s.size : Int) - i < 3 ∨ ¬ (s.extract i (i + 3)).toList = [239, 191, 189])) : replGo s (b + 1) i = true := by
  rw [replGo, if_pos h, if_pos hn]
theorem replGo_end (s : ByteArray) (b i : Nat) (h : ¬ i < s.size) : replGo s b i = false := by
  cases b with
  | zero => rfl
  | succ b => rw [replGo, if_neg h]
set_option maxHeartbeats 800000 in
set_option maxRecDepth 100000 in
theorem spec_replaced.calls (a0 : ByteArray) (r : Bool) (w : World) (h : spec_replaced.f a0 = some r) :
    Calls Tryd.prog 75 #[.string a0] w fun e w' => e = .returned (.bool r) ∧ Below w.heap.size w w' := by
  have hsz : a0.size ≤ 140737488351232 := by
    unfold spec_replaced.f at h
    split at h
    · assumption
    · cases h
  have hr := Aside0.mk (show replGo a0 a0.size 0 = r by
    unfold spec_replaced.f at h
    rw [if_pos hsz] at h
    exact Option.some.inj h)
  clear h
  go_enter Tryd.func75, Tryd.ntmps75
  go_wp2
  go_loopw [2] (fun n w' => ∃ (pos b : Nat), w' = w.iter a0 pos ∧ n = .bool false ∧ Aside0 (replGo a0 b pos = r) ∧ a0.size ≤ pos + b) (fun _ w' => a0.size - w'.iterPos w.heap.size)
  case atStart => exact ⟨0, a0.size, rfl, rfl, hr, by omega⟩
  case round =>
    obtain ⟨pos, b, rfl, rfl, hc, hb⟩ := hrel
    by_cases hp : pos < a0.size
    · have hnx : ∀ ty, (Instr.next (.pointer (some ⟨w.heap.size, 0, none⟩)) true ty).run Tryd.prog (w.iter a0 pos) = _ := fun ty => run_next_any w a0 pos ty hp
      have hwd := width_pos a0 pos hp
      obtain ⟨b, rfl⟩ : ∃ c, b = c + 1 := ⟨b - 1, by omega⟩
      by_cases hC : (Utf8.decode a0 pos).1 = 65533 ∧ ((a0.size : Int) - pos < 3 ∨ ¬ (a0.extract pos (pos + 3)).toList = [239, 191, 189])
      · have hit := hc.out.symm.trans (replGo_hit a0 b pos hp hC)
        subst hit
        obtain ⟨h1, h2⟩ := hC
        by_cases h3 : (a0.size : Int) - pos < 3
        · clear h2
          have h1' : (((Utf8.decode a0 pos).1 : Int) == 65533) = true := by rw [beq_iff_eq]; omega
          clear h1 hc
          go_wp2
          go_ret
          exact ⟨rfl, (Below.refl _ _).alloc (Nat.le_refl _) _⟩
        · have h5 : (pos : Int) + 3 ≤ a0.size := by omega
          have h6 : (0 : Int) ≤ (pos : Int) + 3 := by omega
          have h7 : (pos : Int) ≤ (pos : Int) + 3 := by omega
          have h4 : ((a0.extract pos (pos + 3)).toList == [239, 191, 189]) = false := beq_eq_false_iff_ne.2 (h2.resolve_left h3)
          clear h2
          have h1' : (((Utf8.decode a0 pos).1 : Int) == 65533) = true := by rw [beq_iff_eq]; omega
          clear h1 hc
          go_wp2
          go_ret
          exact ⟨rfl, (Below.refl _ _).alloc (Nat.le_refl _) _⟩
      · have step := hc.out.symm.trans (replGo_step a0 b pos hp hC)
        have step' := Aside0.mk step.symm
        clear step hc
        by_cases h1 : (Utf8.decode a0 pos).1 = 65533
        · have h1' : (((Utf8.decode a0 pos).1 : Int) == 65533) = true := by rw [beq_iff_eq]; omega
          have h3 : ¬ (a0.size : Int) - pos < 3 := fun h => hC ⟨h1, .inl h⟩
          have h5 : (pos : Int) + 3 ≤ a0.size := by omega
          have h6 : (0 : Int) ≤ (pos : Int) + 3 := by omega
          have h7 : (pos : Int) ≤ (pos : Int) + 3 := by omega
          have h4 : ((a0.extract pos (pos + 3)).toList == [239, 191, 189]) = true := beq_iff_eq.2 (Classical.byContradiction fun h => hC ⟨h1, .inr h⟩)
          clear h1 hC
          go_wp2
          go_roundw
          case rel => exact ⟨pos + (Utf8.decode a0 pos).2, b, rfl, rfl, step', by omega⟩
          case measure => simp; omega
        · have h1' : (((Utf8.decode a0 pos).1 : Int) == 65533) = false := beq_eq_false_iff_ne.2 (by omega)
          clear h1 hC
          go_wp2
          go_roundw
          case rel => exact ⟨pos + (Utf8.decode a0 pos).2, b, rfl, rfl, step', by omega⟩
          case measure => simp; omega
    · have hnx : ∀ ty, (Instr.next (.pointer (some ⟨w.heap.size, 0, none⟩)) true ty).run Tryd.prog (w.iter a0 pos) = _ := fun ty => run_next_end w a0 pos ty hp
      have he := hc.out.symm.trans (replGo_end a0 b pos hp)
      subst he
      clear hc
      go_wp2
      go_ret
      exact ⟨rfl, (Below.refl _ _).alloc (Nat.le_refl _) _⟩
set_option maxHeartbeats 1600000 in
set_option maxRecDepth 100000 in
theorem points_call (s : ByteArray) (ha : ascii s) (hs : s.size ≤ 500) (w : World) :
    Calls Tryd.prog 53 #[.string s] w fun e w' => ∃ v b, e = .returned (.tuple #[v, .bool b]) ∧ Kd.R (Kd.int .i32) 21 w' w.heap.size (fun _ => True) v (nums8 s) ∧ Below w.heap.size w w' := by
  have HR8 := Lib.hid (ascii_mem ha)
  have HRO := Lib.hid (runesOf_ascii ha)
  have HSZ := Lib.hid (show s.size ≤ 70368744177664 by omega)
  have HRP := Lib.hid (fun W => spec_replaced.calls s (replGo s s.size 0) W (by unfold spec_replaced.f; rw [if_pos (by omega)]))
  generalize replGo s s.size 0 = rb at *
  clear ha hs
  go_enter Tryd.func53, Tryd.ntmps53
  go_wp2_with (first | ((with_reducible refine gate_dst (N := 6) rfl ?_); refine Kd.R_runes _ 21 rfl (N := 6) rfl 9 40 _ rfl s rfl Tryd.underlying9 Tryd.underlying40 Tryd.underlying21 (ok := fun _ => True) trivial HSZ.out (Below.refl _ _) (Nat.le_refl _) ?_) | fail)
  intro v1 w1 hr1 hb1 hg1 b1 hn1 hn2
  rw [HRO.out] at hr1
  have HR := Lib.hid hr1
  obtain ⟨A, c, rfl, hle, hC⟩ := Kd.R_reads hr1
  have hcv : (convert 40 9 (.slice A (nums8 s).length c)).run Tryd.prog w1 = .ok (.string s) w1 := by
    rw [Kd.C_runestring Tryd.underlying40 Tryd.underlying21 Tryd.underlying9 hC, txI_runes HR8.out, txI_self]
  have HB := Lib.hid hb1
  clear hr1 hb1 hg1 hn1 hn2 hC hle HRO HR8 HSZ
  generalize (nums8 s).length = N at *
  go_wp2_with fail
  refine (HRP.out _).mono ?_
  rintro e w2 ⟨rfl, hb2⟩
  have HR2 := Lib.hid (Kd.R_below HR.out hb2)
  have HB2 := Lib.hid (HB.out.trans (hb2.mono HB.out.size))
  clear hb2 HR HB HRP hcv
  go_wp2
  go_ret2
  exact ⟨_, _, rfl, HR2.out, HB2.out⟩
theorem info_i32 : (Tryd.prog.info? 21).map (fun i => (i.zero, i.size, i.bytes)) = some (some (.int .i32 0), 1, 4) := by kernel_rfl
set_option maxHeartbeats 1600000 in
set_option maxRecDepth 100000 in
theorem noSpace_call (s : ByteArray) (ha : ascii s) (hs : s.size ≤ 500) (w : World) :
    Calls Tryd.prog 19 #[.string s] w fun e w' => e = .returned (.string (txI (noK (nums8 s) s.size))) ∧ Below w.heap.size w w' := by
  have HP := Lib.hid (points_call s ha hs w)
  have HR8 := Lib.hid (ascii_mem ha)
  have HLN := Lib.hid (nums8_length s)
  obtain ⟨L, hL⟩ : ∃ L, L = nums8 s := ⟨_, rfl⟩
  obtain ⟨N, hN⟩ : ∃ N, N = s.size := ⟨_, rfl⟩
  have hN5 : N ≤ 500 := by rw [hN]; exact hs
  rw [← hN, ← hL] at HLN
  rw [← hL] at HR8 HP
  rw [← hN, ← hL]
  clear hL hN ha hs
  have HST := Lib.hid (show ∀ k, k < N → ∃ n, rdOf 0 L (k : Int) = n ∧ 0 ≤ n ∧ n < 128 ∧ noK L (k + 1) = noSt (noK L k) n from fun k hk => by
    have hkl : k < L.length := by rw [HLN.out]; exact hk
    have h1 := HR8.out L[k] (List.getElem_mem hkl)
    exact ⟨L[k], by simp [rdOf, hkl], h1.1, h1.2, noK_succ hkl⟩)
  go_enter Tryd.func19, Tryd.ntmps19
  go_wp2_with fail
  refine HP.out.mono ?_
  rintro e w1 ⟨v, b, rfl, hr1, hb1⟩
  obtain ⟨A, c, rfl, hle, hC⟩ := Kd.R_reads hr1
  rw [HLN.out] at hC ⊢
  have HC := Lib.hid hC
  have HBW := Lib.hid hb1
  have HG := Lib.hid (show Kd.R (Kd.int .i32) 21 w1 w1.heap.size (fun _ => True) (.slice none 0 0) (noK L 0) from Kd.R_nil _ _ _ _ _)
  have HB := Lib.hid (Below.refl w1.heap.size w1)
  clear hr1 hb1 hC hle HP
  go_wp2
  go_loopw [5, 7, 15] (fun v y i wr => ∃ (k : Nat) (v' y' : Value), v' = v ∧ y' = y ∧ i = .int .i64 k ∧ k ≤ N ∧ Hid (Kd.R (Kd.int .i32) 21 wr w1.heap.size (fun _ => True) v' (noK L k)) ∧ Hid (Below w1.heap.size w1 wr)) (fun _ _ i _ => N - (intOf i).toNat)
  case atStart => exact ⟨0, _, _, rfl, rfl, rfl, Nat.zero_le _, HG, HB⟩
  case round =>
    clear HG HB
    obtain ⟨k, v, y0, rfl, rfl, rfl, hk, hG, hB⟩ := hrel
    by_cases ck : k < N
    · obtain ⟨ad, rfl, q0⟩ := Kd.at_int (Kd.C_below HC.out hB.out) (k : Int) (by omega) (by omega)
      obtain ⟨n, hrd, n0, n1, hst⟩ := HST.out k ck
      have hk2 : k ≤ L.length := by rw [HLN.out]; exact hk
      have hlen := noK_len (L := L) (k := k) hk2
      have q1 : wr.cell? (ad.add k) = some (.int .i32 n) := by
        rw [← hrd]
        exact q0
      have HI := Lib.hid (fun W => isSpace_call n W n0 n1)
      have HLT := Lib.hid hlen
      clear q0 hrd hlen hk2
      cases hsx : Lib.isSpaceL n with
      | true =>
        have HC1 := Lib.hid (show noK L (k + 1) = noK L k by rw [hst]; unfold noSt; rw [hsx]; rfl)
        rw [hsx] at HI
        clear hst
        go_wp2_with fail
        refine (HI.out _).mono ?_
        rintro e w2 ⟨rfl, rfl⟩
        clear HI
        go_wp2
        go_roundw
        case rel => exact ⟨k + 1, v, _, rfl, rfl, by go_num, by omega, by rw [HC1.out]; exact hG, hB⟩
        case measure => simp [intOf]; omega
      | false =>
        have HC1 := Lib.hid (show noK L (k + 1) = noK L k ++ [n] by rw [hst]; unfold noSt; rw [hsx]; rfl)
        rw [hsx] at HI
        have HM := Lib.hid (show (Kd.int .i32).M wr w1.heap.size (fun _ => False) n [.int .i32 n] from rfl)
        have HBS := Lib.hid hB.out.size
        clear hst
        go_wp2_with fail
        refine (HI.out _).mono ?_
        rintro e w2 ⟨rfl, rfl⟩
        clear HI
        go_wp2_with (at_builtin; refine Kd.R_append (Kd.int .i32) (w0 := w1) w1.heap.size rfl _ _ 40 21 (.int .i32 0) 4 rfl Tryd.underlying40 info_i32 rfl (Nat.succ_pos 0) (by decide) v (noK L k) n [.int .i32 n] (fun _ => True) (fun _ => False) rfl rfl HM.out (fun _ h => h.elim) (fun _ _ => trivial) hG.out hB.out HBS.out (by have := HLT.out; omega) ?_)
        intro v1 w3 h1 hb3 hgr hat
        have HG3 := Lib.hid (show Kd.R (Kd.int .i32) 21 w3 w1.heap.size (fun _ => True) v1 (noK L (k + 1)) by rw [HC1.out]; exact h1)
        have HB3 := Lib.hid hb3
        clear h1 hb3 hgr hat hG hB HM HBS HLT q1
        go_wp2
        go_roundw
        case rel => exact ⟨k + 1, v1, _, rfl, rfl, by go_num, by omega, HG3, HB3⟩
        case measure => simp [intOf]; omega
    · obtain rfl : k = N := by omega
      have hcv : ∃ A' c', v = .slice A' (noK L k).length c' ∧ (convert 40 9 (.slice A' (noK L k).length c')).run Tryd.prog wr = .ok (.string (txI (noK L k))) wr := by
        obtain ⟨A', c', he, _, hC'⟩ := Kd.R_reads hG.out
        exact ⟨A', c', he, by rw [← txI_runes (noK_range HR8.out (k := k) (by rw [HLN.out]; exact Nat.le_refl _))]; exact Kd.C_runestring Tryd.underlying40 Tryd.underlying21 Tryd.underlying9 hC'⟩
      obtain ⟨A', c', rfl, hcv⟩ := hcv
      have HBF := Lib.hid (HBW.out.trans (hB.out.mono HBW.out.size))
      clear hG HC HST hB
      go_wp2
      go_ret
      exact ⟨rfl, HBF.out⟩
theorem tx_init : txI (inK (nums8 ⟨#[97, 98, 32, 99, 100]⟩) (⟨#[97, 98, 32, 99, 100]⟩ : ByteArray).size).1 = ⟨#[97, 99]⟩ := by apply ba_ext; decide +kernel
theorem ab_ascii : ascii ⟨#[97, 98, 32, 99, 100]⟩ := by
  intro i hi
  have h : ∀ j : Fin 5, bt ⟨#[97, 98, 32, 99, 100]⟩ ((j.val : Nat) : Int) < 128 := by decide +kernel
  exact h ⟨i, hi⟩
set_option maxHeartbeats 1600000 in
set_option maxRecDepth 100000 in
theorem fnWords (s : ByteArray) (w : World) (hs0 : s.size ≤ 140737488351232) :
    Calls Tryd.prog 4 #[.string s] w fun e w' => e = .returned (.bool true) ∧ Below w.heap.size w w' := by
  have HB := Lib.hid (Below.refl w.heap.size w)
  by_cases c0 : 2147483647 < (s.size : Int)
  · have d0 : decide (2147483647 < (s.size : Int)) = true := decide_eq_true c0
    go_enter Tryd.func4, Tryd.ntmps4
    go_wp2
    go_ret
    exact ⟨rfl, HB.out⟩
  have d0 : decide (2147483647 < (s.size : Int)) = false := decide_eq_false c0
  obtain ⟨b, hb, h9⟩ := plain9_call s
  have H9 := Lib.hid h9
  have HBA := Lib.hid ((Below.refl w.heap.size w).alloc (Nat.le_refl _) (.cells #[.string s] 9))
  cases b with
  | false =>
    clear hb h9
    go_enter Tryd.func4, Tryd.ntmps4
    go_wp2_with fail
    refine (H9.out _ _ _ (by rw [blk_cell (heap_alloc_new w (.cells #[.string s] 9)) 0]; rfl)).mono ?_
    rintro e w1 ⟨rfl, hb1⟩
    have HB1 := Lib.hid (HBA.out.trans (hb1.mono (by simp)))
    clear hb1 H9 HBA
    go_wp2
    go_ret
    exact ⟨rfl, HB1.out⟩
  | true =>
  obtain ⟨h5, ha⟩ := hb rfl
  have H1 := Lib.hid (fun W => uncap_3 s ha h5 W)
  have H2 := Lib.hid (fun W => uncapitalized_call s ha h5 W)
  have H3 := Lib.hid (fun W => initials_3 s ha h5 W)
  have H4 := Lib.hid (fun W => initialsBy_call s ha h5 W)
  have H5 := Lib.hid (fun W => delws_3 s ha h5 W)
  have H6 := Lib.hid (fun W => noSpace_call s ha h5 W)
  have H7 := Lib.hid (fun W => initials_3 ⟨#[97, 98, 32, 99, 100]⟩ ab_ascii (by decide) W)
  rw [tx_init] at H7
  generalize txI (capK (nums8 s) s.size).1 = r1 at *
  generalize txI (inK (nums8 s) s.size).1 = r2 at *
  generalize txI (noK (nums8 s) s.size) = r3 at *
  clear hb h9 ha h5
  go_enter Tryd.func4, Tryd.ntmps4
  go_wp2_with fail
  refine (H9.out _ _ _ (by rw [blk_cell (heap_alloc_new w (.cells #[.string s] 9)) 0]; rfl)).mono ?_
  rintro e w1 ⟨rfl, hb1⟩
  have HB1 := Lib.hid (HBA.out.trans (hb1.mono (by simp)))
  clear hb1 H9 HBA
  go_wp2_with fail
  refine (H1.out _).mono ?_
  rintro e w2 ⟨rfl, hb2⟩
  have HB2 := Lib.hid (HB1.out.trans (hb2.mono HB1.out.size))
  clear hb2 H1 HB1
  go_wp2_with fail
  refine (H2.out _).mono ?_
  rintro e w3 ⟨rfl, hb3⟩
  have HB3 := Lib.hid (HB2.out.trans (hb3.mono HB2.out.size))
  clear hb3 H2 HB2
  go_wp2_with fail
  refine (H3.out _).mono ?_
  rintro e w4 ⟨rfl, hb4⟩
  have HB4 := Lib.hid (HB3.out.trans (hb4.mono HB3.out.size))
  clear hb4 H3 HB3
  go_wp2_with fail
  refine (H4.out _).mono ?_
  rintro e w5 ⟨rfl, hb5⟩
  have HB5 := Lib.hid (HB4.out.trans (hb5.mono HB4.out.size))
  clear hb5 H4 HB4
  go_wp2_with fail
  refine (H5.out _).mono ?_
  rintro e w6 ⟨rfl, hb6⟩
  have HB6 := Lib.hid (HB5.out.trans (hb6.mono HB5.out.size))
  clear hb6 H5 HB5
  go_wp2_with fail
  refine (H6.out _).mono ?_
  rintro e w7 ⟨rfl, hb7⟩
  have HB7 := Lib.hid (HB6.out.trans (hb7.mono HB6.out.size))
  clear hb7 H6 HB6
  go_wp2_with fail
  refine (H7.out _).mono ?_
  rintro e w8 ⟨rfl, hb8⟩
  have HB8 := Lib.hid (HB7.out.trans (hb8.mono HB7.out.size))
  clear hb8 H7 HB7
  go_wp2
  go_ret
  exact ⟨rfl, HB8.out⟩
end Go.Proofs.YtaeddkndkmfdiaaDoor.P
