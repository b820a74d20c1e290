/- goutils.Capitalize, Uncapitalize of a text of ASCII, any delimiters. -/
import Derived.Test.YtjpibaehpmkdmaaDoorW3
set_option linter.unusedVariables false
set_option linter.unusedSimpArgs false
namespace Go.Proofs.YtjpibaehpmkdmaaDoor.P
open Go.RowKit Go.Proofs.YtjpibaehpmkdmaaDoorW.PrintWords Go.Proofs.YtjpibaehpmkdmaaDoorW.PrintLast Go.Proofs.YtjpibaehpmkdmaaDoorW.PrintMore

def gSt (sp : Int → Bool) (cs : Int → Int) (st : List Int × Bool) (n : Int) : List Int × Bool := if sp n then (st.1 ++ [n], true) else if st.2 then (st.1 ++ [cs n], false) else (st.1 ++ [n], false)
def gK (sp : Int → Bool) (cs : Int → Int) (L : List Int) (k : Nat) : List Int × Bool := (L.take k).foldl (gSt sp cs) ([], true)
theorem gK_succ {sp : Int → Bool} {cs : Int → Int} {L : List Int} {k : Nat} (h : k < L.length) : gK sp cs L (k + 1) = gSt sp cs (gK sp cs L k) L[k] := by
  unfold gK
  rw [List.take_succ_eq_append_getElem h, List.foldl_append]
  rfl
theorem gSt_len (sp : Int → Bool) (cs : Int → Int) (st : List Int × Bool) (n : Int) : (gSt sp cs st n).1.length = st.1.length + 1 := by
  unfold gSt
  split
  · simp
  · split <;> simp
theorem gK_len {sp : Int → Bool} {cs : Int → Int} {L : List Int} : ∀ {k : Nat}, k ≤ L.length → (gK sp cs L k).1.length = k
  | 0, _ => rfl
  | k + 1, h => by rw [gK_succ (by omega), gSt_len, gK_len (by omega)]
theorem gK_range {sp : Int → Bool} {cs : Int → Int} (hcs : ∀ n, 0 ≤ n → n < 128 → 0 ≤ cs n ∧ cs n < 128) {L : List Int} (h : ∀ x ∈ L, 0 ≤ x ∧ x < 128) : ∀ {k : Nat}, k ≤ L.length → ∀ x ∈ (gK sp cs L k).1, 0 ≤ x ∧ x < 128
  | 0, _, x, hx => by cases hx
  | k + 1, hk, x, hx => by
    have ih := gK_range (sp := sp) hcs h (k := k) (by omega)
    have hl := h L[k] (List.getElem_mem (by omega))
    rw [gK_succ (by omega)] at hx
    unfold gSt at hx
    split at hx
    · rcases List.mem_append.1 hx with hx | hx
      · exact ih x hx
      · rw [List.mem_singleton.1 hx]; exact hl
    · split at hx
      · rcases List.mem_append.1 hx with hx | hx
        · exact ih x hx
        · rw [List.mem_singleton.1 hx]; exact hcs _ hl.1 hl.2
      · rcases List.mem_append.1 hx with hx | hx
        · exact ih x hx
        · rw [List.mem_singleton.1 hx]; exact hl
theorem up_range {n : Int} (h0 : 0 ≤ n) (h1 : n < 128) : 0 ≤ Lib.toUpperR n ∧ Lib.toUpperR n < 128 := by
  unfold Lib.toUpperR
  split <;> omega
set_option maxHeartbeats 1600000 in
set_option maxRecDepth 100000 in
theorem toTitle_call (r : Int) (w : World) (h0 : 0 ≤ r) (h : r < 128) : Calls Tryd.prog 53 #[.int .i32 r] w fun e w' => e = .returned (.int .i32 (Lib.toUpperR r)) ∧ w' = w := by
  by_cases c1 : 97 ≤ r ∧ r ≤ 122
  · have HX := Lib.hid (show Lib.toUpperR r = r - 32 by unfold Lib.toUpperR; rw [if_pos c1])
    rw [HX.out]
    obtain ⟨a1, a2⟩ := c1
    go_enter Tryd.func53, Tryd.ntmps53
    go_wp2
    go_ret
    exact ⟨rfl, rfl⟩
  · have HX := Lib.hid (show Lib.toUpperR r = r by unfold Lib.toUpperR; rw [if_neg c1])
    rw [HX.out]
    have c2 : r < 97 ∨ 122 < r := by omega
    clear c1
    rcases c2 with c2 | c2
    all_goals
      go_enter Tryd.func53, Tryd.ntmps53
      go_wp2
      go_ret
      exact ⟨rfl, rfl⟩
set_option maxHeartbeats 1600000 in
set_option maxRecDepth 100000 in
theorem uncapG (sp : Int → Bool) (w : World) (s : ByteArray) (ha : ascii s) (hs : s.size ≤ 500) (hdel : ∀ (r : Int) (W : World), 0 ≤ r → r < 128 → Below w.heap.size w W → Calls Tryd.prog 52 #[.int .i32 r, .slice none 0 0] W fun e w' => e = .returned (.bool (sp r)) ∧ w' = W) :
    Calls Tryd.prog 38 #[.string s, .slice none 0 0] w fun e w' => e = .returned (.string (txI (gK sp Lib.toLowerR (nums8 s) s.size).1)) ∧ Below w.heap.size w w' := by
  have hnil := nil_eq
  by_cases hs0 : s = ⟨#[]⟩
  · subst hs0
    have HX := Lib.hid (show txI (gK sp Lib.toLowerR (nums8 ⟨#[]⟩) (⟨#[]⟩ : ByteArray).size).1 = ⟨#[]⟩ by rfl)
    rw [HX.out]
    go_enter Tryd.func38, Tryd.ntmps38
    go_wp2
    go_ret
    exact ⟨rfl, Below.refl _ _⟩
  have hne := full_text hs0
  have HR8 := Lib.hid (ascii_mem ha)
  have HLN := Lib.hid (nums8_length s)
  have HRO := Lib.hid (runesOf_ascii ha)
  obtain ⟨L, hL⟩ : ∃ L, L = nums8 s := ⟨_, rfl⟩
  obtain ⟨N, hN⟩ : ∃ N, N = s.size := ⟨_, rfl⟩
  rw [← hL, ← hN] at HLN
  rw [← hL] at HR8 HRO
  rw [← hL, ← hN]
  have hN5 : N ≤ 500 := by rw [hN]; exact hs
  have HSZ := Lib.hid (show s.size ≤ 70368744177664 by omega)
  clear hL hN ha hs
  go_enter Tryd.func38, Tryd.ntmps38
  go_wp2_with (first | ((with_reducible refine gate_dst (N := 22) rfl ?_); refine Kd.R_runes _ 21 rfl (N := 22) rfl 9 38 _ rfl s rfl Tryd.underlying9 Tryd.underlying38 Tryd.underlying21 (ok := fun _ => True) trivial HSZ.out (Below.refl _ _) (Nat.le_refl _) ?_) | fail)
  intro v1 w1 hr1 hb1 hg1 b1 hn1 hn2
  rw [HRO.out] at hr1
  obtain ⟨A, c, rfl, hle, hC⟩ := Kd.R_reads hr1
  rw [HLN.out] at hr1 ⊢
  have HR := Lib.hid (show Kd.R (Kd.int .i32) 21 w1 w.heap.size (fun _ => True) (.slice A N c) ((gK sp Lib.toLowerR L 0).1 ++ L.drop 0) from hr1)
  have HB := Lib.hid hb1
  clear hr1 hb1 hg1 hn1 hn2 hC hle
  have HST := Lib.hid (show ∀ k, k < N → ∃ n, L[k]? = some n ∧ 0 ≤ n ∧ n < 128 ∧ rdOf 0 ((gK sp Lib.toLowerR L k).1 ++ L.drop k) (k : Int) = n ∧ gK sp Lib.toLowerR L (k + 1) = gSt sp Lib.toLowerR (gK sp Lib.toLowerR L k) n ∧ (gK sp Lib.toLowerR L k).1 ++ L.drop k = (gK sp Lib.toLowerR L k).1 ++ n :: L.drop (k + 1) from fun k hk => by
    have hkl : k < L.length := by rw [HLN.out]; exact hk
    have h1 := HR8.out L[k] (List.getElem_mem hkl)
    refine ⟨L[k], by simp [hkl], h1.1, h1.2, ?_, gK_succ hkl, by rw [List.drop_eq_getElem_cons hkl]⟩
    have h2 := gK_len (sp := sp) (cs := Lib.toLowerR) (L := L) (k := k) (by omega)
    unfold rdOf
    rw [Int.toNat_natCast, List.getD_eq_getElem?_getD, List.getElem?_append_right (by omega), h2]
    simp [hkl])
  have HCL := Lib.hid (show ∀ k, k ≤ N → (gK sp Lib.toLowerR L k).1.length = k from fun k hk => gK_len (by rw [HLN.out]; exact hk))
  have HTOT := Lib.hid (show ∀ k, k ≤ N → ((gK sp Lib.toLowerR L k).1 ++ L.drop k).length = N from fun k hk => by rw [List.length_append, HCL.out k hk, List.length_drop, HLN.out]; omega)
  go_wp2
  go_loopw [7, 8, 9] (fun f i ch wr => ∃ (k : Nat) (cv : Value), f = .bool (gK sp Lib.toLowerR L k).2 ∧ i = .int .i64 k ∧ cv = ch ∧ k ≤ N ∧ Hid (Kd.R (Kd.int .i32) 21 wr w.heap.size (fun _ => True) (.slice A N c) ((gK sp Lib.toLowerR L k).1 ++ L.drop k)) ∧ Hid (Below w.heap.size w wr)) (fun _ i _ _ => N - (intOf i).toNat)
  case atStart => exact ⟨0, _, rfl, rfl, rfl, Nat.zero_le _, HR, HB⟩
  case round =>
    clear HR HB
    obtain ⟨k, cv, rfl, rfl, rfl, hk, hR, hB⟩ := hrel
    by_cases ck : k < N
    · obtain ⟨n, hn, n0, n1, hrd, hst, hsp⟩ := HST.out k ck
      have hR0 := hR.out
      rw [← HTOT.out k hk] at hR0
      obtain ⟨inner, ho⟩ := Kd.R_own hR0
      obtain ⟨g, rfl, hBg⟩ : ∃ g, A = some ⟨g, 0, none⟩ ∧ w.heap.size ≤ g := by
        rcases ho.2 with ⟨_, h2⟩ | ⟨g, cap, cur, h1, hb, hg, _⟩
        · rw [HTOT.out k hk] at h2; omega
        · injection h1 with h1 _ _
          exact ⟨g, h1, hb⟩
      have q0 := Kd.R_cell (d := (0 : Int)) hR0 (k : Int) (by omega) (by rw [HTOT.out k hk]; omega)
      rw [Int.toNat_natCast, hrd] at q0
      obtain ⟨q1, z1⟩ := q0
      have HI := Lib.hid (hdel n wr n0 n1 hB.out)
      have hLow := low_range n0 n1
      have HPUT := Lib.hid (fun (W : World) (h : Kd.R (Kd.int .i32) 21 W w.heap.size (fun _ => True) (.slice (some ⟨g, 0, none⟩) N c) ((gK sp Lib.toLowerR L k).1 ++ L.drop k)) (y : Int) => show Kd.R (Kd.int .i32) 21 (W.setCell ⟨g, k, none⟩ (.int .i32 y)) w.heap.size (fun _ => True) (.slice (some ⟨g, 0, none⟩) N c) ((gK sp Lib.toLowerR L k).1 ++ y :: L.drop (k + 1)) from by
        have h2 := Kd.R_putn h (k : Int) y
        rw [Int.toNat_natCast, hsp, List.set_append_right _ _ (by rw [HCL.out k hk]; exact Nat.le_refl _), HCL.out k hk, Nat.sub_self, List.set_cons_zero] at h2
        exact h2)
      have HR0 := Lib.hid hR.out
      clear hR0 ho hrd hR
      cases hsx : sp n with
      | true =>
        have HC1 := Lib.hid (show gK sp Lib.toLowerR L (k + 1) = ((gK sp Lib.toLowerR L k).1 ++ [n], true) by rw [hst]; unfold gSt; rw [hsx]; rfl)
        have HR1 := Lib.hid (show Kd.R (Kd.int .i32) 21 wr w.heap.size (fun _ => True) (.slice (some ⟨g, 0, none⟩) N c) ((gK sp Lib.toLowerR L (k + 1)).1 ++ L.drop (k + 1)) by rw [HC1.out, List.append_assoc]; have := HR0.out; rw [hsp] at this; exact this)
        rw [hsx] at HI
        clear hst hsp HR0 HPUT
        go_wp2_with fail
        refine HI.out.mono ?_
        rintro e w2 ⟨rfl, rfl⟩
        clear HI
        go_wp2
        go_roundw
        case rel => exact ⟨k + 1, _, by rw [HC1.out], by go_num, rfl, by omega, HR1, hB⟩
        case measure => simp [intOf]; omega
      | false =>
        rw [hsx] at HI
        cases hf : (gK sp Lib.toLowerR L k).2 with
        | false =>
          have HC1 := Lib.hid (show gK sp Lib.toLowerR L (k + 1) = ((gK sp Lib.toLowerR L k).1 ++ [n], false) by rw [hst]; unfold gSt; rw [hsx, hf]; rfl)
          have HR1 := Lib.hid (show Kd.R (Kd.int .i32) 21 wr w.heap.size (fun _ => True) (.slice (some ⟨g, 0, none⟩) N c) ((gK sp Lib.toLowerR L (k + 1)).1 ++ L.drop (k + 1)) by rw [HC1.out, List.append_assoc]; have := HR0.out; rw [hsp] at this; exact this)
          clear hst hsp HR0 HPUT
          go_wp2_with fail
          refine HI.out.mono ?_
          rintro e w2 ⟨rfl, rfl⟩
          clear HI
          go_wp2
          go_roundw
          case rel => exact ⟨k + 1, _, by rw [HC1.out], by go_num, rfl, by omega, HR1, hB⟩
          case measure => simp [intOf]; omega
        | true =>
          have HC1 := Lib.hid (show gK sp Lib.toLowerR L (k + 1) = ((gK sp Lib.toLowerR L k).1 ++ [Lib.toLowerR n], false) by rw [hst]; unfold gSt; rw [hsx, hf]; rfl)
          have HR1 := Lib.hid (show Kd.R (Kd.int .i32) 21 (wr.setCell ⟨g, k, none⟩ (.int .i32 (Lib.toLowerR n))) w.heap.size (fun _ => True) (.slice (some ⟨g, 0, none⟩) N c) ((gK sp Lib.toLowerR L (k + 1)).1 ++ L.drop (k + 1)) by rw [HC1.out, List.append_assoc]; exact HPUT.out _ HR0.out _)
          have HB1 := Lib.hid (hB.out.setCell (p := ⟨g, k, none⟩) hBg (.int .i32 (Lib.toLowerR n)))
          have HLW := Lib.hid (fun W => Tryd.unicode_ToLower n W (by omega))
          clear hst hsp HR0 HPUT
          generalize Lib.toLowerR n = y at *
          go_wp2_with fail
          refine HI.out.mono ?_
          rintro e w2 ⟨rfl, rfl⟩
          clear HI
          go_wp2_with fail
          refine (HLW.out _).mono ?_
          rintro e w3 ⟨rfl, rfl⟩
          clear HLW
          go_wp2
          go_roundw
          case rel => exact ⟨k + 1, _, by rw [HC1.out], by go_num, rfl, by omega, HR1, HB1⟩
          case measure => simp [intOf]; omega
    · obtain rfl : k = N := by omega
      have HF := Lib.hid (show Kd.C (Kd.int .i32) wr A k (gK sp Lib.toLowerR L k).1 by
        have h1 := hR.out
        rw [List.drop_of_length_le (by rw [HLN.out]; exact Nat.le_refl _), List.append_nil] at h1
        obtain ⟨A', c', he, _, hC⟩ := Kd.R_reads h1
        injection he with hA hn _
        subst hA
        rw [HCL.out k hk] at hC
        exact hC)
      have hcv : (convert 38 9 (.slice A k c)).run Tryd.prog wr = .ok (.string (txI (gK sp Lib.toLowerR L k).1)) wr := by
        rw [← txI_runes (gK_range (fun n a b => low_range a b) HR8.out (k := k) (by rw [HLN.out]; exact Nat.le_refl _))]
        exact Kd.C_runestring Tryd.underlying38 Tryd.underlying21 Tryd.underlying9 HF.out
      clear HST HCL HTOT hR
      go_wp2
      go_ret
      exact ⟨rfl, hB.out⟩
set_option maxHeartbeats 1600000 in
set_option maxRecDepth 100000 in
theorem uncapD (sp : Int → Bool) (ad : Addr) (dn dc : Nat) (hdn : 0 < dn) (hdn2 : dn ≤ 1000) (w : World) (s : ByteArray) (ha : ascii s) (hs : s.size ≤ 500) (hdel : ∀ (r : Int) (W : World), 0 ≤ r → r < 128 → Below w.heap.size w W → Calls Tryd.prog 52 #[.int .i32 r, .slice (some ad) dn dc] W fun e w' => e = .returned (.bool (sp r)) ∧ w' = W) :
    Calls Tryd.prog 38 #[.string s, .slice (some ad) dn dc] w fun e w' => e = .returned (.string (txI (gK sp Lib.toLowerR (nums8 s) s.size).1)) ∧ Below w.heap.size w w' := by
  have hnil : ∀ W : World, (binOp BinOp.eql 38 (Value.slice (some ad) dn dc) (Value.slice none 0 0)).run Tryd.prog W = .ok (.bool false) W := fun W => by kernel_rfl
  have hdz : ((dn : Int) == 0) = false := beq_eq_false_iff_ne.2 (by omega)
  have hdz2 : (dn == 0) = false := beq_eq_false_iff_ne.2 (by omega)
  by_cases hs0 : s = ⟨#[]⟩
  · subst hs0
    have HX := Lib.hid (show txI (gK sp Lib.toLowerR (nums8 ⟨#[]⟩) (⟨#[]⟩ : ByteArray).size).1 = ⟨#[]⟩ by rfl)
    rw [HX.out]
    go_enter Tryd.func38, Tryd.ntmps38
    go_wp2
    go_ret
    exact ⟨rfl, Below.refl _ _⟩
  have hne := full_text hs0
  have HR8 := Lib.hid (ascii_mem ha)
  have HLN := Lib.hid (nums8_length s)
  have HRO := Lib.hid (runesOf_ascii ha)
  obtain ⟨L, hL⟩ : ∃ L, L = nums8 s := ⟨_, rfl⟩
  obtain ⟨N, hN⟩ : ∃ N, N = s.size := ⟨_, rfl⟩
  rw [← hL, ← hN] at HLN
  rw [← hL] at HR8 HRO
  rw [← hL, ← hN]
  have hN5 : N ≤ 500 := by rw [hN]; exact hs
  have HSZ := Lib.hid (show s.size ≤ 70368744177664 by omega)
  clear hL hN ha hs
  go_enter Tryd.func38, Tryd.ntmps38
  go_wp2_with (first | ((with_reducible refine gate_dst (N := 22) rfl ?_); refine Kd.R_runes _ 21 rfl (N := 22) rfl 9 38 _ rfl s rfl Tryd.underlying9 Tryd.underlying38 Tryd.underlying21 (ok := fun _ => True) trivial HSZ.out (Below.refl _ _) (Nat.le_refl _) ?_) | fail)
  intro v1 w1 hr1 hb1 hg1 b1 hn1 hn2
  rw [HRO.out] at hr1
  obtain ⟨A, c, rfl, hle, hC⟩ := Kd.R_reads hr1
  rw [HLN.out] at hr1 ⊢
  have HR := Lib.hid (show Kd.R (Kd.int .i32) 21 w1 w.heap.size (fun _ => True) (.slice A N c) ((gK sp Lib.toLowerR L 0).1 ++ L.drop 0) from hr1)
  have HB := Lib.hid hb1
  clear hr1 hb1 hg1 hn1 hn2 hC hle
  have HST := Lib.hid (show ∀ k, k < N → ∃ n, L[k]? = some n ∧ 0 ≤ n ∧ n < 128 ∧ rdOf 0 ((gK sp Lib.toLowerR L k).1 ++ L.drop k) (k : Int) = n ∧ gK sp Lib.toLowerR L (k + 1) = gSt sp Lib.toLowerR (gK sp Lib.toLowerR L k) n ∧ (gK sp Lib.toLowerR L k).1 ++ L.drop k = (gK sp Lib.toLowerR L k).1 ++ n :: L.drop (k + 1) from fun k hk => by
    have hkl : k < L.length := by rw [HLN.out]; exact hk
    have h1 := HR8.out L[k] (List.getElem_mem hkl)
    refine ⟨L[k], by simp [hkl], h1.1, h1.2, ?_, gK_succ hkl, by rw [List.drop_eq_getElem_cons hkl]⟩
    have h2 := gK_len (sp := sp) (cs := Lib.toLowerR) (L := L) (k := k) (by omega)
    unfold rdOf
    rw [Int.toNat_natCast, List.getD_eq_getElem?_getD, List.getElem?_append_right (by omega), h2]
    simp [hkl])
  have HCL := Lib.hid (show ∀ k, k ≤ N → (gK sp Lib.toLowerR L k).1.length = k from fun k hk => gK_len (by rw [HLN.out]; exact hk))
  have HTOT := Lib.hid (show ∀ k, k ≤ N → ((gK sp Lib.toLowerR L k).1 ++ L.drop k).length = N from fun k hk => by rw [List.length_append, HCL.out k hk, List.length_drop, HLN.out]; omega)
  go_wp2
  go_loopw [7, 8, 9] (fun f i ch wr => ∃ (k : Nat) (cv : Value), f = .bool (gK sp Lib.toLowerR L k).2 ∧ i = .int .i64 k ∧ cv = ch ∧ k ≤ N ∧ Hid (Kd.R (Kd.int .i32) 21 wr w.heap.size (fun _ => True) (.slice A N c) ((gK sp Lib.toLowerR L k).1 ++ L.drop k)) ∧ Hid (Below w.heap.size w wr)) (fun _ i _ _ => N - (intOf i).toNat)
  case atStart => exact ⟨0, _, rfl, rfl, rfl, Nat.zero_le _, HR, HB⟩
  case round =>
    clear HR HB
    obtain ⟨k, cv, rfl, rfl, rfl, hk, hR, hB⟩ := hrel
    by_cases ck : k < N
    · obtain ⟨n, hn, n0, n1, hrd, hst, hsp⟩ := HST.out k ck
      have hR0 := hR.out
      rw [← HTOT.out k hk] at hR0
      obtain ⟨inner, ho⟩ := Kd.R_own hR0
      obtain ⟨g, rfl, hBg⟩ : ∃ g, A = some ⟨g, 0, none⟩ ∧ w.heap.size ≤ g := by
        rcases ho.2 with ⟨_, h2⟩ | ⟨g, cap, cur, h1, hb, hg, _⟩
        · rw [HTOT.out k hk] at h2; omega
        · injection h1 with h1 _ _
          exact ⟨g, h1, hb⟩
      have q0 := Kd.R_cell (d := (0 : Int)) hR0 (k : Int) (by omega) (by rw [HTOT.out k hk]; omega)
      rw [Int.toNat_natCast, hrd] at q0
      obtain ⟨q1, z1⟩ := q0
      have HI := Lib.hid (hdel n wr n0 n1 hB.out)
      have hLow := low_range n0 n1
      have HPUT := Lib.hid (fun (W : World) (h : Kd.R (Kd.int .i32) 21 W w.heap.size (fun _ => True) (.slice (some ⟨g, 0, none⟩) N c) ((gK sp Lib.toLowerR L k).1 ++ L.drop k)) (y : Int) => show Kd.R (Kd.int .i32) 21 (W.setCell ⟨g, k, none⟩ (.int .i32 y)) w.heap.size (fun _ => True) (.slice (some ⟨g, 0, none⟩) N c) ((gK sp Lib.toLowerR L k).1 ++ y :: L.drop (k + 1)) from by
        have h2 := Kd.R_putn h (k : Int) y
        rw [Int.toNat_natCast, hsp, List.set_append_right _ _ (by rw [HCL.out k hk]; exact Nat.le_refl _), HCL.out k hk, Nat.sub_self, List.set_cons_zero] at h2
        exact h2)
      have HR0 := Lib.hid hR.out
      clear hR0 ho hrd hR
      cases hsx : sp n with
      | true =>
        have HC1 := Lib.hid (show gK sp Lib.toLowerR L (k + 1) = ((gK sp Lib.toLowerR L k).1 ++ [n], true) by rw [hst]; unfold gSt; rw [hsx]; rfl)
        have HR1 := Lib.hid (show Kd.R (Kd.int .i32) 21 wr w.heap.size (fun _ => True) (.slice (some ⟨g, 0, none⟩) N c) ((gK sp Lib.toLowerR L (k + 1)).1 ++ L.drop (k + 1)) by rw [HC1.out, List.append_assoc]; have := HR0.out; rw [hsp] at this; exact this)
        rw [hsx] at HI
        clear hst hsp HR0 HPUT
        go_wp2_with fail
        refine HI.out.mono ?_
        rintro e w2 ⟨rfl, rfl⟩
        clear HI
        go_wp2
        go_roundw
        case rel => exact ⟨k + 1, _, by rw [HC1.out], by go_num, rfl, by omega, HR1, hB⟩
        case measure => simp [intOf]; omega
      | false =>
        rw [hsx] at HI
        cases hf : (gK sp Lib.toLowerR L k).2 with
        | false =>
          have HC1 := Lib.hid (show gK sp Lib.toLowerR L (k + 1) = ((gK sp Lib.toLowerR L k).1 ++ [n], false) by rw [hst]; unfold gSt; rw [hsx, hf]; rfl)
          have HR1 := Lib.hid (show Kd.R (Kd.int .i32) 21 wr w.heap.size (fun _ => True) (.slice (some ⟨g, 0, none⟩) N c) ((gK sp Lib.toLowerR L (k + 1)).1 ++ L.drop (k + 1)) by rw [HC1.out, List.append_assoc]; have := HR0.out; rw [hsp] at this; exact this)
          clear hst hsp HR0 HPUT
          go_wp2_with fail
          refine HI.out.mono ?_
          rintro e w2 ⟨rfl, rfl⟩
          clear HI
          go_wp2
          go_roundw
          case rel => exact ⟨k + 1, _, by rw [HC1.out], by go_num, rfl, by omega, HR1, hB⟩
          case measure => simp [intOf]; omega
        | true =>
          have HC1 := Lib.hid (show gK sp Lib.toLowerR L (k + 1) = ((gK sp Lib.toLowerR L k).1 ++ [Lib.toLowerR n], false) by rw [hst]; unfold gSt; rw [hsx, hf]; rfl)
          have HR1 := Lib.hid (show Kd.R (Kd.int .i32) 21 (wr.setCell ⟨g, k, none⟩ (.int .i32 (Lib.toLowerR n))) w.heap.size (fun _ => True) (.slice (some ⟨g, 0, none⟩) N c) ((gK sp Lib.toLowerR L (k + 1)).1 ++ L.drop (k + 1)) by rw [HC1.out, List.append_assoc]; exact HPUT.out _ HR0.out _)
          have HB1 := Lib.hid (hB.out.setCell (p := ⟨g, k, none⟩) hBg (.int .i32 (Lib.toLowerR n)))
          have HLW := Lib.hid (fun W => Tryd.unicode_ToLower n W (by omega))
          clear hst hsp HR0 HPUT
          generalize Lib.toLowerR n = y at *
          go_wp2_with fail
          refine HI.out.mono ?_
          rintro e w2 ⟨rfl, rfl⟩
          clear HI
          go_wp2_with fail
          refine (HLW.out _).mono ?_
          rintro e w3 ⟨rfl, rfl⟩
          clear HLW
          go_wp2
          go_roundw
          case rel => exact ⟨k + 1, _, by rw [HC1.out], by go_num, rfl, by omega, HR1, HB1⟩
          case measure => simp [intOf]; omega
    · obtain rfl : k = N := by omega
      have HF := Lib.hid (show Kd.C (Kd.int .i32) wr A k (gK sp Lib.toLowerR L k).1 by
        have h1 := hR.out
        rw [List.drop_of_length_le (by rw [HLN.out]; exact Nat.le_refl _), List.append_nil] at h1
        obtain ⟨A', c', he, _, hC⟩ := Kd.R_reads h1
        injection he with hA hn _
        subst hA
        rw [HCL.out k hk] at hC
        exact hC)
      have hcv : (convert 38 9 (.slice A k c)).run Tryd.prog wr = .ok (.string (txI (gK sp Lib.toLowerR L k).1)) wr := by
        rw [← txI_runes (gK_range (fun n a b => low_range a b) HR8.out (k := k) (by rw [HLN.out]; exact Nat.le_refl _))]
        exact Kd.C_runestring Tryd.underlying38 Tryd.underlying21 Tryd.underlying9 HF.out
      clear HST HCL HTOT hR
      go_wp2
      go_ret
      exact ⟨rfl, hB.out⟩
set_option maxHeartbeats 1600000 in
set_option maxRecDepth 100000 in
theorem capG (sp : Int → Bool) (w : World) (s : ByteArray) (ha : ascii s) (hs : s.size ≤ 500) (hdel : ∀ (r : Int) (W : World), 0 ≤ r → r < 128 → Below w.heap.size w W → Calls Tryd.prog 52 #[.int .i32 r, .slice none 0 0] W fun e w' => e = .returned (.bool (sp r)) ∧ w' = W) :
    Calls Tryd.prog 32 #[.string s, .slice none 0 0] w fun e w' => e = .returned (.string (txI (gK sp Lib.toUpperR (nums8 s) s.size).1)) ∧ Below w.heap.size w w' := by
  have hnil := nil_eq
  by_cases hs0 : s = ⟨#[]⟩
  · subst hs0
    have HX := Lib.hid (show txI (gK sp Lib.toUpperR (nums8 ⟨#[]⟩) (⟨#[]⟩ : ByteArray).size).1 = ⟨#[]⟩ by rfl)
    rw [HX.out]
    go_enter Tryd.func32, Tryd.ntmps32
    go_wp2
    go_ret
    exact ⟨rfl, Below.refl _ _⟩
  have hne := full_text hs0
  have HR8 := Lib.hid (ascii_mem ha)
  have HLN := Lib.hid (nums8_length s)
  have HRO := Lib.hid (runesOf_ascii ha)
  obtain ⟨L, hL⟩ : ∃ L, L = nums8 s := ⟨_, rfl⟩
  obtain ⟨N, hN⟩ : ∃ N, N = s.size := ⟨_, rfl⟩
  rw [← hL, ← hN] at HLN
  rw [← hL] at HR8 HRO
  rw [← hL, ← hN]
  have hN5 : N ≤ 500 := by rw [hN]; exact hs
  have HSZ := Lib.hid (show s.size ≤ 70368744177664 by omega)
  clear hL hN ha hs
  go_enter Tryd.func32, Tryd.ntmps32
  go_wp2_with (first | ((with_reducible refine gate_dst (N := 22) rfl ?_); refine Kd.R_runes _ 21 rfl (N := 22) rfl 9 38 _ rfl s rfl Tryd.underlying9 Tryd.underlying38 Tryd.underlying21 (ok := fun _ => True) trivial HSZ.out (Below.refl _ _) (Nat.le_refl _) ?_) | fail)
  intro v1 w1 hr1 hb1 hg1 b1 hn1 hn2
  rw [HRO.out] at hr1
  obtain ⟨A, c, rfl, hle, hC⟩ := Kd.R_reads hr1
  rw [HLN.out] at hr1 ⊢
  have HR := Lib.hid (show Kd.R (Kd.int .i32) 21 w1 w.heap.size (fun _ => True) (.slice A N c) ((gK sp Lib.toUpperR L 0).1 ++ L.drop 0) from hr1)
  have HB := Lib.hid hb1
  clear hr1 hb1 hg1 hn1 hn2 hC hle
  have HST := Lib.hid (show ∀ k, k < N → ∃ n, L[k]? = some n ∧ 0 ≤ n ∧ n < 128 ∧ rdOf 0 ((gK sp Lib.toUpperR L k).1 ++ L.drop k) (k : Int) = n ∧ gK sp Lib.toUpperR L (k + 1) = gSt sp Lib.toUpperR (gK sp Lib.toUpperR L k) n ∧ (gK sp Lib.toUpperR L k).1 ++ L.drop k = (gK sp Lib.toUpperR L k).1 ++ n :: L.drop (k + 1) from fun k hk => by
    have hkl : k < L.length := by rw [HLN.out]; exact hk
    have h1 := HR8.out L[k] (List.getElem_mem hkl)
    refine ⟨L[k], by simp [hkl], h1.1, h1.2, ?_, gK_succ hkl, by rw [List.drop_eq_getElem_cons hkl]⟩
    have h2 := gK_len (sp := sp) (cs := Lib.toUpperR) (L := L) (k := k) (by omega)
    unfold rdOf
    rw [Int.toNat_natCast, List.getD_eq_getElem?_getD, List.getElem?_append_right (by omega), h2]
    simp [hkl])
  have HCL := Lib.hid (show ∀ k, k ≤ N → (gK sp Lib.toUpperR L k).1.length = k from fun k hk => gK_len (by rw [HLN.out]; exact hk))
  have HTOT := Lib.hid (show ∀ k, k ≤ N → ((gK sp Lib.toUpperR L k).1 ++ L.drop k).length = N from fun k hk => by rw [List.length_append, HCL.out k hk, List.length_drop, HLN.out]; omega)
  go_wp2
  go_loopw [7, 8, 9] (fun f i ch wr => ∃ (k : Nat) (cv : Value), f = .bool (gK sp Lib.toUpperR L k).2 ∧ i = .int .i64 k ∧ cv = ch ∧ k ≤ N ∧ Hid (Kd.R (Kd.int .i32) 21 wr w.heap.size (fun _ => True) (.slice A N c) ((gK sp Lib.toUpperR L k).1 ++ L.drop k)) ∧ Hid (Below w.heap.size w wr)) (fun _ i _ _ => N - (intOf i).toNat)
  case atStart => exact ⟨0, _, rfl, rfl, rfl, Nat.zero_le _, HR, HB⟩
  case round =>
    clear HR HB
    obtain ⟨k, cv, rfl, rfl, rfl, hk, hR, hB⟩ := hrel
    by_cases ck : k < N
    · obtain ⟨n, hn, n0, n1, hrd, hst, hsp⟩ := HST.out k ck
      have hR0 := hR.out
      rw [← HTOT.out k hk] at hR0
      obtain ⟨inner, ho⟩ := Kd.R_own hR0
      obtain ⟨g, rfl, hBg⟩ : ∃ g, A = some ⟨g, 0, none⟩ ∧ w.heap.size ≤ g := by
        rcases ho.2 with ⟨_, h2⟩ | ⟨g, cap, cur, h1, hb, hg, _⟩
        · rw [HTOT.out k hk] at h2; omega
        · injection h1 with h1 _ _
          exact ⟨g, h1, hb⟩
      have q0 := Kd.R_cell (d := (0 : Int)) hR0 (k : Int) (by omega) (by rw [HTOT.out k hk]; omega)
      rw [Int.toNat_natCast, hrd] at q0
      obtain ⟨q1, z1⟩ := q0
      have HI := Lib.hid (hdel n wr n0 n1 hB.out)
      have hLow := up_range n0 n1
      have HPUT := Lib.hid (fun (W : World) (h : Kd.R (Kd.int .i32) 21 W w.heap.size (fun _ => True) (.slice (some ⟨g, 0, none⟩) N c) ((gK sp Lib.toUpperR L k).1 ++ L.drop k)) (y : Int) => show Kd.R (Kd.int .i32) 21 (W.setCell ⟨g, k, none⟩ (.int .i32 y)) w.heap.size (fun _ => True) (.slice (some ⟨g, 0, none⟩) N c) ((gK sp Lib.toUpperR L k).1 ++ y :: L.drop (k + 1)) from by
        have h2 := Kd.R_putn h (k : Int) y
        rw [Int.toNat_natCast, hsp, List.set_append_right _ _ (by rw [HCL.out k hk]; exact Nat.le_refl _), HCL.out k hk, Nat.sub_self, List.set_cons_zero] at h2
        exact h2)
      have HR0 := Lib.hid hR.out
      clear hR0 ho hrd hR
      cases hsx : sp n with
      | true =>
        have HC1 := Lib.hid (show gK sp Lib.toUpperR L (k + 1) = ((gK sp Lib.toUpperR L k).1 ++ [n], true) by rw [hst]; unfold gSt; rw [hsx]; rfl)
        have HR1 := Lib.hid (show Kd.R (Kd.int .i32) 21 wr w.heap.size (fun _ => True) (.slice (some ⟨g, 0, none⟩) N c) ((gK sp Lib.toUpperR L (k + 1)).1 ++ L.drop (k + 1)) by rw [HC1.out, List.append_assoc]; have := HR0.out; rw [hsp] at this; exact this)
        rw [hsx] at HI
        clear hst hsp HR0 HPUT
        go_wp2_with fail
        refine HI.out.mono ?_
        rintro e w2 ⟨rfl, rfl⟩
        clear HI
        go_wp2
        go_roundw
        case rel => exact ⟨k + 1, _, by rw [HC1.out], by go_num, rfl, by omega, HR1, hB⟩
        case measure => simp [intOf]; omega
      | false =>
        rw [hsx] at HI
        cases hf : (gK sp Lib.toUpperR L k).2 with
        | false =>
          have HC1 := Lib.hid (show gK sp Lib.toUpperR L (k + 1) = ((gK sp Lib.toUpperR L k).1 ++ [n], false) by rw [hst]; unfold gSt; rw [hsx, hf]; rfl)
          have HR1 := Lib.hid (show Kd.R (Kd.int .i32) 21 wr w.heap.size (fun _ => True) (.slice (some ⟨g, 0, none⟩) N c) ((gK sp Lib.toUpperR L (k + 1)).1 ++ L.drop (k + 1)) by rw [HC1.out, List.append_assoc]; have := HR0.out; rw [hsp] at this; exact this)
          clear hst hsp HR0 HPUT
          go_wp2_with fail
          refine HI.out.mono ?_
          rintro e w2 ⟨rfl, rfl⟩
          clear HI
          go_wp2
          go_roundw
          case rel => exact ⟨k + 1, _, by rw [HC1.out], by go_num, rfl, by omega, HR1, hB⟩
          case measure => simp [intOf]; omega
        | true =>
          have HC1 := Lib.hid (show gK sp Lib.toUpperR L (k + 1) = ((gK sp Lib.toUpperR L k).1 ++ [Lib.toUpperR n], false) by rw [hst]; unfold gSt; rw [hsx, hf]; rfl)
          have HR1 := Lib.hid (show Kd.R (Kd.int .i32) 21 (wr.setCell ⟨g, k, none⟩ (.int .i32 (Lib.toUpperR n))) w.heap.size (fun _ => True) (.slice (some ⟨g, 0, none⟩) N c) ((gK sp Lib.toUpperR L (k + 1)).1 ++ L.drop (k + 1)) by rw [HC1.out, List.append_assoc]; exact HPUT.out _ HR0.out _)
          have HB1 := Lib.hid (hB.out.setCell (p := ⟨g, k, none⟩) hBg (.int .i32 (Lib.toUpperR n)))
          have HLW := Lib.hid (fun W => toTitle_call n W n0 n1)
          clear hst hsp HR0 HPUT
          generalize Lib.toUpperR n = y at *
          go_wp2_with fail
          refine HI.out.mono ?_
          rintro e w2 ⟨rfl, rfl⟩
          clear HI
          go_wp2_with fail
          refine (HLW.out _).mono ?_
          rintro e w3 ⟨rfl, rfl⟩
          clear HLW
          go_wp2
          go_roundw
          case rel => exact ⟨k + 1, _, by rw [HC1.out], by go_num, rfl, by omega, HR1, HB1⟩
          case measure => simp [intOf]; omega
    · obtain rfl : k = N := by omega
      have HF := Lib.hid (show Kd.C (Kd.int .i32) wr A k (gK sp Lib.toUpperR L k).1 by
        have h1 := hR.out
        rw [List.drop_of_length_le (by rw [HLN.out]; exact Nat.le_refl _), List.append_nil] at h1
        obtain ⟨A', c', he, _, hC⟩ := Kd.R_reads h1
        injection he with hA hn _
        subst hA
        rw [HCL.out k hk] at hC
        exact hC)
      have hcv : (convert 38 9 (.slice A k c)).run Tryd.prog wr = .ok (.string (txI (gK sp Lib.toUpperR L k).1)) wr := by
        rw [← txI_runes (gK_range (fun n a b => up_range a b) HR8.out (k := k) (by rw [HLN.out]; exact Nat.le_refl _))]
        exact Kd.C_runestring Tryd.underlying38 Tryd.underlying21 Tryd.underlying9 HF.out
      clear HST HCL HTOT hR
      go_wp2
      go_ret
      exact ⟨rfl, hB.out⟩
set_option maxHeartbeats 1600000 in
set_option maxRecDepth 100000 in
theorem capD (sp : Int → Bool) (ad : Addr) (dn dc : Nat) (hdn : 0 < dn) (hdn2 : dn ≤ 1000) (w : World) (s : ByteArray) (ha : ascii s) (hs : s.size ≤ 500) (hdel : ∀ (r : Int) (W : World), 0 ≤ r → r < 128 → Below w.heap.size w W → Calls Tryd.prog 52 #[.int .i32 r, .slice (some ad) dn dc] W fun e w' => e = .returned (.bool (sp r)) ∧ w' = W) :
    Calls Tryd.prog 32 #[.string s, .slice (some ad) dn dc] w fun e w' => e = .returned (.string (txI (gK sp Lib.toUpperR (nums8 s) s.size).1)) ∧ Below w.heap.size w w' := by
  have hnil : ∀ W : World, (binOp BinOp.eql 38 (Value.slice (some ad) dn dc) (Value.slice none 0 0)).run Tryd.prog W = .ok (.bool false) W := fun W => by kernel_rfl
  have hdz : ((dn : Int) == 0) = false := beq_eq_false_iff_ne.2 (by omega)
  have hdz2 : (dn == 0) = false := beq_eq_false_iff_ne.2 (by omega)
  by_cases hs0 : s = ⟨#[]⟩
  · subst hs0
    have HX := Lib.hid (show txI (gK sp Lib.toUpperR (nums8 ⟨#[]⟩) (⟨#[]⟩ : ByteArray).size).1 = ⟨#[]⟩ by rfl)
    rw [HX.out]
    go_enter Tryd.func32, Tryd.ntmps32
    go_wp2
    go_ret
    exact ⟨rfl, Below.refl _ _⟩
  have hne := full_text hs0
  have HR8 := Lib.hid (ascii_mem ha)
  have HLN := Lib.hid (nums8_length s)
  have HRO := Lib.hid (runesOf_ascii ha)
  obtain ⟨L, hL⟩ : ∃ L, L = nums8 s := ⟨_, rfl⟩
  obtain ⟨N, hN⟩ : ∃ N, N = s.size := ⟨_, rfl⟩
  rw [← hL, ← hN] at HLN
  rw [← hL] at HR8 HRO
  rw [← hL, ← hN]
  have hN5 : N ≤ 500 := by rw [hN]; exact hs
  have HSZ := Lib.hid (show s.size ≤ 70368744177664 by omega)
  clear hL hN ha hs
  go_enter Tryd.func32, Tryd.ntmps32
  go_wp2_with (first | ((with_reducible refine gate_dst (N := 22) rfl ?_); refine Kd.R_runes _ 21 rfl (N := 22) rfl 9 38 _ rfl s rfl Tryd.underlying9 Tryd.underlying38 Tryd.underlying21 (ok := fun _ => True) trivial HSZ.out (Below.refl _ _) (Nat.le_refl _) ?_) | fail)
  intro v1 w1 hr1 hb1 hg1 b1 hn1 hn2
  rw [HRO.out] at hr1
  obtain ⟨A, c, rfl, hle, hC⟩ := Kd.R_reads hr1
  rw [HLN.out] at hr1 ⊢
  have HR := Lib.hid (show Kd.R (Kd.int .i32) 21 w1 w.heap.size (fun _ => True) (.slice A N c) ((gK sp Lib.toUpperR L 0).1 ++ L.drop 0) from hr1)
  have HB := Lib.hid hb1
  clear hr1 hb1 hg1 hn1 hn2 hC hle
  have HST := Lib.hid (show ∀ k, k < N → ∃ n, L[k]? = some n ∧ 0 ≤ n ∧ n < 128 ∧ rdOf 0 ((gK sp Lib.toUpperR L k).1 ++ L.drop k) (k : Int) = n ∧ gK sp Lib.toUpperR L (k + 1) = gSt sp Lib.toUpperR (gK sp Lib.toUpperR L k) n ∧ (gK sp Lib.toUpperR L k).1 ++ L.drop k = (gK sp Lib.toUpperR L k).1 ++ n :: L.drop (k + 1) from fun k hk => by
    have hkl : k < L.length := by rw [HLN.out]; exact hk
    have h1 := HR8.out L[k] (List.getElem_mem hkl)
    refine ⟨L[k], by simp [hkl], h1.1, h1.2, ?_, gK_succ hkl, by rw [List.drop_eq_getElem_cons hkl]⟩
    have h2 := gK_len (sp := sp) (cs := Lib.toUpperR) (L := L) (k := k) (by omega)
    unfold rdOf
    rw [Int.toNat_natCast, List.getD_eq_getElem?_getD, List.getElem?_append_right (by omega), h2]
    simp [hkl])
  have HCL := Lib.hid (show ∀ k, k ≤ N → (gK sp Lib.toUpperR L k).1.length = k from fun k hk => gK_len (by rw [HLN.out]; exact hk))
  have HTOT := Lib.hid (show ∀ k, k ≤ N → ((gK sp Lib.toUpperR L k).1 ++ L.drop k).length = N from fun k hk => by rw [List.length_append, HCL.out k hk, List.length_drop, HLN.out]; omega)
  go_wp2
  go_loopw [7, 8, 9] (fun f i ch wr => ∃ (k : Nat) (cv : Value), f = .bool (gK sp Lib.toUpperR L k).2 ∧ i = .int .i64 k ∧ cv = ch ∧ k ≤ N ∧ Hid (Kd.R (Kd.int .i32) 21 wr w.heap.size (fun _ => True) (.slice A N c) ((gK sp Lib.toUpperR L k).1 ++ L.drop k)) ∧ Hid (Below w.heap.size w wr)) (fun _ i _ _ => N - (intOf i).toNat)
  case atStart => exact ⟨0, _, rfl, rfl, rfl, Nat.zero_le _, HR, HB⟩
  case round =>
    clear HR HB
    obtain ⟨k, cv, rfl, rfl, rfl, hk, hR, hB⟩ := hrel
    by_cases ck : k < N
    · obtain ⟨n, hn, n0, n1, hrd, hst, hsp⟩ := HST.out k ck
      have hR0 := hR.out
      rw [← HTOT.out k hk] at hR0
      obtain ⟨inner, ho⟩ := Kd.R_own hR0
      obtain ⟨g, rfl, hBg⟩ : ∃ g, A = some ⟨g, 0, none⟩ ∧ w.heap.size ≤ g := by
        rcases ho.2 with ⟨_, h2⟩ | ⟨g, cap, cur, h1, hb, hg, _⟩
        · rw [HTOT.out k hk] at h2; omega
        · injection h1 with h1 _ _
          exact ⟨g, h1, hb⟩
      have q0 := Kd.R_cell (d := (0 : Int)) hR0 (k : Int) (by omega) (by rw [HTOT.out k hk]; omega)
      rw [Int.toNat_natCast, hrd] at q0
      obtain ⟨q1, z1⟩ := q0
      have HI := Lib.hid (hdel n wr n0 n1 hB.out)
      have hLow := up_range n0 n1
      have HPUT := Lib.hid (fun (W : World) (h : Kd.R (Kd.int .i32) 21 W w.heap.size (fun _ => True) (.slice (some ⟨g, 0, none⟩) N c) ((gK sp Lib.toUpperR L k).1 ++ L.drop k)) (y : Int) => show Kd.R (Kd.int .i32) 21 (W.setCell ⟨g, k, none⟩ (.int .i32 y)) w.heap.size (fun _ => True) (.slice (some ⟨g, 0, none⟩) N c) ((gK sp Lib.toUpperR L k).1 ++ y :: L.drop (k + 1)) from by
        have h2 := Kd.R_putn h (k : Int) y
        rw [Int.toNat_natCast, hsp, List.set_append_right _ _ (by rw [HCL.out k hk]; exact Nat.le_refl _), HCL.out k hk, Nat.sub_self, List.set_cons_zero] at h2
        exact h2)
      have HR0 := Lib.hid hR.out
      clear hR0 ho hrd hR
      cases hsx : sp n with
      | true =>
        have HC1 := Lib.hid (show gK sp Lib.toUpperR L (k + 1) = ((gK sp Lib.toUpperR L k).1 ++ [n], true) by rw [hst]; unfold gSt; rw [hsx]; rfl)
        have HR1 := Lib.hid (show Kd.R (Kd.int .i32) 21 wr w.heap.size (fun _ => True) (.slice (some ⟨g, 0, none⟩) N c) ((gK sp Lib.toUpperR L (k + 1)).1 ++ L.drop (k + 1)) by rw [HC1.out, List.append_assoc]; have := HR0.out; rw [hsp] at this; exact this)
        rw [hsx] at HI
        clear hst hsp HR0 HPUT
        go_wp2_with fail
        refine HI.out.mono ?_
        rintro e w2 ⟨rfl, rfl⟩
        clear HI
        go_wp2
        go_roundw
        case rel => exact ⟨k + 1, _, by rw [HC1.out], by go_num, rfl, by omega, HR1, hB⟩
        case measure => simp [intOf]; omega
      | false =>
        rw [hsx] at HI
        cases hf : (gK sp Lib.toUpperR L k).2 with
        | false =>
          have HC1 := Lib.hid (show gK sp Lib.toUpperR L (k + 1) = ((gK sp Lib.toUpperR L k).1 ++ [n], false) by rw [hst]; unfold gSt; rw [hsx, hf]; rfl)
          have HR1 := Lib.hid (show Kd.R (Kd.int .i32) 21 wr w.heap.size (fun _ => True) (.slice (some ⟨g, 0, none⟩) N c) ((gK sp Lib.toUpperR L (k + 1)).1 ++ L.drop (k + 1)) by rw [HC1.out, List.append_assoc]; have := HR0.out; rw [hsp] at this; exact this)
          clear hst hsp HR0 HPUT
          go_wp2_with fail
          refine HI.out.mono ?_
          rintro e w2 ⟨rfl, rfl⟩
          clear HI
          go_wp2
          go_roundw
          case rel => exact ⟨k + 1, _, by rw [HC1.out], by go_num, rfl, by omega, HR1, hB⟩
          case measure => simp [intOf]; omega
        | true =>
          have HC1 := Lib.hid (show gK sp Lib.toUpperR L (k + 1) = ((gK sp Lib.toUpperR L k).1 ++ [Lib.toUpperR n], false) by rw [hst]; unfold gSt; rw [hsx, hf]; rfl)
          have HR1 := Lib.hid (show Kd.R (Kd.int .i32) 21 (wr.setCell ⟨g, k, none⟩ (.int .i32 (Lib.toUpperR n))) w.heap.size (fun _ => True) (.slice (some ⟨g, 0, none⟩) N c) ((gK sp Lib.toUpperR L (k + 1)).1 ++ L.drop (k + 1)) by rw [HC1.out, List.append_assoc]; exact HPUT.out _ HR0.out _)
          have HB1 := Lib.hid (hB.out.setCell (p := ⟨g, k, none⟩) hBg (.int .i32 (Lib.toUpperR n)))
          have HLW := Lib.hid (fun W => toTitle_call n W n0 n1)
          clear hst hsp HR0 HPUT
          generalize Lib.toUpperR n = y at *
          go_wp2_with fail
          refine HI.out.mono ?_
          rintro e w2 ⟨rfl, rfl⟩
          clear HI
          go_wp2_with fail
          refine (HLW.out _).mono ?_
          rintro e w3 ⟨rfl, rfl⟩
          clear HLW
          go_wp2
          go_roundw
          case rel => exact ⟨k + 1, _, by rw [HC1.out], by go_num, rfl, by omega, HR1, HB1⟩
          case measure => simp [intOf]; omega
    · obtain rfl : k = N := by omega
      have HF := Lib.hid (show Kd.C (Kd.int .i32) wr A k (gK sp Lib.toUpperR L k).1 by
        have h1 := hR.out
        rw [List.drop_of_length_le (by rw [HLN.out]; exact Nat.le_refl _), List.append_nil] at h1
        obtain ⟨A', c', he, _, hC⟩ := Kd.R_reads h1
        injection he with hA hn _
        subst hA
        rw [HCL.out k hk] at hC
        exact hC)
      have hcv : (convert 38 9 (.slice A k c)).run Tryd.prog wr = .ok (.string (txI (gK sp Lib.toUpperR L k).1)) wr := by
        rw [← txI_runes (gK_range (fun n a b => up_range a b) HR8.out (k := k) (by rw [HLN.out]; exact Nat.le_refl _))]
        exact Kd.C_runestring Tryd.underlying38 Tryd.underlying21 Tryd.underlying9 HF.out
      clear HST HCL HTOT hR
      go_wp2
      go_ret
      exact ⟨rfl, hB.out⟩
end Go.Proofs.YtjpibaehpmkdmaaDoor.P
