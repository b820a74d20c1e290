/- goutils.Uncapitalize, Initials, DeleteWhiteSpace of a text of ASCII. -/
import Derived.Test.YtjpibaehpmkdmaaDoorPx0
import Derived.Test.YtjpibaehpmkdmaaDoorSh
import Derived.Test.YtjpibaehpmkdmaaDoorXw
import Derived.Lib.Hide
set_option linter.unusedVariables false
set_option linter.unusedSimpArgs false
namespace Go.Proofs.YtjpibaehpmkdmaaDoor.P
open Go.RowKit Go.Proofs.YtjpibaehpmkdmaaDoorW.PrintWords Go.Proofs.YtjpibaehpmkdmaaDoorW.PrintLast Go.Proofs.YtjpibaehpmkdmaaDoorW.PrintMore

/-! ### what they compute -/
def capSt (st : List Int × Bool) (n : Int) : List Int × Bool := if Lib.isSpaceL n then (st.1 ++ [n], true) else if st.2 then (st.1 ++ [Lib.toLowerR n], false) else (st.1 ++ [n], false)
def inSt (st : List Int × Bool) (n : Int) : List Int × Bool := if Lib.isSpaceL n then (st.1, true) else if st.2 then (st.1 ++ [n], false) else (st.1, false)
def noSt (st : List Int) (n : Int) : List Int := if Lib.isSpaceL n then st else st ++ [n]
def capK (L : List Int) (k : Nat) : List Int × Bool := (L.take k).foldl capSt ([], true)
def inK (L : List Int) (k : Nat) : List Int × Bool := (L.take k).foldl inSt ([], true)
def noK (L : List Int) (k : Nat) : List Int := (L.take k).foldl noSt []
theorem capK_succ {L : List Int} {k : Nat} (h : k < L.length) : capK L (k + 1) = capSt (capK L k) L[k] := by
  unfold capK
  rw [List.take_succ_eq_append_getElem h, List.foldl_append]
  rfl
theorem inK_succ {L : List Int} {k : Nat} (h : k < L.length) : inK L (k + 1) = inSt (inK L k) L[k] := by
  unfold inK
  rw [List.take_succ_eq_append_getElem h, List.foldl_append]
  rfl
theorem noK_succ {L : List Int} {k : Nat} (h : k < L.length) : noK L (k + 1) = noSt (noK L k) L[k] := by
  unfold noK
  rw [List.take_succ_eq_append_getElem h, List.foldl_append]
  rfl
theorem capSt_len (st : List Int × Bool) (n : Int) : (capSt st n).1.length = st.1.length + 1 := by
  unfold capSt
  split
  · simp
  · split <;> simp
theorem capK_len {L : List Int} : ∀ {k : Nat}, k ≤ L.length → (capK L k).1.length = k
  | 0, _ => rfl
  | k + 1, h => by rw [capK_succ (by omega), capSt_len, capK_len (by omega)]
theorem low_range {n : Int} (h0 : 0 ≤ n) (h1 : n < 128) : 0 ≤ Lib.toLowerR n ∧ Lib.toLowerR n < 128 := by
  unfold Lib.toLowerR
  split <;> omega
theorem capK_range {L : List Int} (h : ∀ x ∈ L, 0 ≤ x ∧ x < 128) : ∀ {k : Nat}, k ≤ L.length → ∀ x ∈ (capK L k).1, 0 ≤ x ∧ x < 128
  | 0, _, x, hx => by cases hx
  | k + 1, hk, x, hx => by
    have ih := capK_range h (k := k) (by omega)
    have hl := h L[k] (List.getElem_mem (by omega))
    rw [capK_succ (by omega)] at hx
    unfold capSt at hx
    split at hx
    · rcases List.mem_append.1 hx with hx | hx
      · exact ih x hx
      · rw [List.mem_singleton.1 hx]; exact hl
    · split at hx
      · rcases List.mem_append.1 hx with hx | hx
        · exact ih x hx
        · rw [List.mem_singleton.1 hx]; exact low_range hl.1 hl.2
      · rcases List.mem_append.1 hx with hx | hx
        · exact ih x hx
        · rw [List.mem_singleton.1 hx]; exact hl
theorem inK_range {L : List Int} (h : ∀ x ∈ L, 0 ≤ x ∧ x < 128) : ∀ {k : Nat}, k ≤ L.length → ∀ x ∈ (inK L k).1, 0 ≤ x ∧ x < 128
  | 0, _, x, hx => by cases hx
  | k + 1, hk, x, hx => by
    have ih := inK_range h (k := k) (by omega)
    have hl := h L[k] (List.getElem_mem (by omega))
    rw [inK_succ (by omega)] at hx
    unfold inSt at hx
    split at hx
    · exact ih x hx
    · split at hx
      · rcases List.mem_append.1 hx with hx | hx
        · exact ih x hx
        · rw [List.mem_singleton.1 hx]; exact hl
      · exact ih x hx
theorem inK_len {L : List Int} : ∀ {k : Nat}, k ≤ L.length → (inK L k).1.length ≤ k
  | 0, _ => Nat.le_refl 0
  | k + 1, h => by
    have ih := inK_len (L := L) (k := k) (by omega)
    rw [inK_succ (by omega)]
    unfold inSt
    split
    · exact Nat.le_succ_of_le ih
    · split
      · simp; exact ih
      · exact Nat.le_succ_of_le ih
theorem noK_range {L : List Int} (h : ∀ x ∈ L, 0 ≤ x ∧ x < 128) : ∀ {k : Nat}, k ≤ L.length → ∀ x ∈ noK L k, 0 ≤ x ∧ x < 128
  | 0, _, x, hx => by cases hx
  | k + 1, hk, x, hx => by
    have ih := noK_range h (k := k) (by omega)
    have hl := h L[k] (List.getElem_mem (by omega))
    rw [noK_succ (by omega)] at hx
    unfold noSt at hx
    split at hx
    · exact ih x hx
    · rcases List.mem_append.1 hx with hx | hx
      · exact ih x hx
      · rw [List.mem_singleton.1 hx]; exact hl
theorem noK_len {L : List Int} : ∀ {k : Nat}, k ≤ L.length → (noK L k).length ≤ k
  | 0, _ => Nat.le_refl 0
  | k + 1, h => by
    have ih := noK_len (L := L) (k := k) (by omega)
    rw [noK_succ (by omega)]
    unfold noSt
    split
    · exact Nat.le_succ_of_le ih
    · simp; exact ih
theorem cells_bytes {l : List Int} (h : ∀ x ∈ l, 0 ≤ x ∧ x < 128) : Lib.byteCells (l.map fun x => UInt8.ofNat x.toNat) = l.map (Value.int .u8) := by
  unfold Lib.byteCells
  rw [List.map_map]
  refine List.map_congr_left fun x hx => ?_
  obtain ⟨h0, h1⟩ := h x hx
  show Value.int .u8 ((UInt8.ofNat x.toNat).toNat : Int) = _
  rw [UInt8.toNat_ofNat']
  congr 1
  omega
theorem one_cells (l : List Int) : ∀ v ∈ l.map (Value.int .u8), v.oneCell' = true := fun v hv => by
  obtain ⟨x, _, rfl⟩ := List.mem_map.1 hv
  rfl
theorem wrap32_ascii {n : Int} (h0 : 0 ≤ n) (h1 : n < 128) : wrap32 n = n := by unfold wrap32; omega
theorem noK_filter (L : List Int) (k : Nat) : noK L k = (L.take k).filter fun n => !Lib.isSpaceL n := by
  unfold noK
  have key : ∀ (l acc : List Int), l.foldl noSt acc = acc ++ l.filter fun n => !Lib.isSpaceL n := by
    intro l
    induction l with
    | nil => intro acc; simp
    | cons x r ih =>
      intro acc
      rw [List.foldl_cons, ih]
      unfold noSt
      cases h : Lib.isSpaceL x <;> simp [h]
  rw [key]
  rfl
theorem noK_all {L : List Int} (h : (noK L L.length).length = L.length) : noK L L.length = L := by
  rw [noK_filter, List.take_length] at h ⊢
  exact List.filter_eq_self.2 (List.length_filter_eq_length_iff.1 h)
/-- The text of those numbers. -/
def txI (l : List Int) : ByteArray := ⟨(l.map fun x => UInt8.ofNat x.toNat).toArray⟩
theorem txI_list (l : List Int) : (txI l).data.toList = l.map fun x => UInt8.ofNat x.toNat := rfl
theorem txI_self (s : ByteArray) : txI (nums8 s) = s := by
  apply ba_ext
  rw [txI_list]
  unfold nums8
  rw [List.map_map]
  have h : ((fun x : Int => UInt8.ofNat x.toNat) ∘ fun b : UInt8 => (b.toNat : Int)) = id := by
    funext b
    simp
  rw [h, List.map_id]
theorem txI_runes {l : List Int} (h : ∀ x ∈ l, 0 ≤ x ∧ x < 128) : runesBytes l = txI l := by
  apply ba_ext
  rw [runesBytes_ascii h, txI_list]
theorem nums8_nil {s : ByteArray} (h : s = ⟨#[]⟩) : nums8 s = [] := by subst h; rfl
theorem nil_eq : ∀ W : World, (binOp BinOp.eql 38 (Value.slice none 0 0) (Value.slice none 0 0)).run Tryd.prog W = .ok (.bool true) W := fun W => by kernel_rfl
theorem nil_ne : ∀ W : World, (binOp BinOp.neq 38 (Value.slice none 0 0) (Value.slice none 0 0)).run Tryd.prog W = .ok (.bool false) W := fun W => by kernel_rfl
theorem full_text {s : ByteArray} (h : ¬ s = ⟨#[]⟩) : s.toList.isEmpty = false := by
  cases hl : s.toList.isEmpty with
  | false => rfl
  | true =>
    exfalso
    apply h
    apply ba_ext
    rw [← ByteArray.toList_eq]
    exact List.isEmpty_iff.1 hl
set_option maxHeartbeats 1600000 in
set_option maxRecDepth 100000 in
theorem isDelim_call (r : Int) (w : World) (h0 : 0 ≤ r) (h : r < 128) :
    Calls Tryd.prog 52 #[.int .i32 r, .slice none 0 0] w fun e w' => e = .returned (.bool (Lib.isSpaceL r)) ∧ w' = w := by
  have HI := Lib.hid (Tryd.unicode_IsSpace r w h0 (by omega))
  generalize Lib.isSpaceL r = b at *
  have hnil := nil_eq
  go_enter Tryd.func52, Tryd.ntmps52
  go_wp2_with fail
  refine HI.out.mono ?_
  rintro e w1 ⟨rfl, rfl⟩
  clear HI
  go_wp2
  go_ret
  exact ⟨rfl, rfl⟩
set_option maxHeartbeats 1600000 in
set_option maxRecDepth 100000 in
theorem uncap_call (s : ByteArray) (ha : ascii s) (hs : s.size ≤ 500) (w : World) :
    Calls Tryd.prog 38 #[.string s, .slice none 0 0] w fun e w' => e = .returned (.string (txI (capK (nums8 s) s.size).1)) ∧ Below w.heap.size w w' := by
  have hnil := nil_eq
  by_cases hs0 : s = ⟨#[]⟩
  · subst hs0
    have HX := Lib.hid (show txI (capK (nums8 ⟨#[]⟩) (⟨#[]⟩ : ByteArray).size).1 = ⟨#[]⟩ by rfl)
    rw [HX.out]
    go_enter Tryd.func38, Tryd.ntmps38
    go_wp2
    go_ret
    exact ⟨rfl, Below.refl _ _⟩
  have hne := full_text hs0
  have HR8 := Lib.hid (ascii_mem ha)
  have HLN := Lib.hid (nums8_length s)
  have HRO := Lib.hid (runesOf_ascii ha)
  obtain ⟨L, hL⟩ : ∃ L, L = nums8 s := ⟨_, rfl⟩
  obtain ⟨N, hN⟩ : ∃ N, N = s.size := ⟨_, rfl⟩
  rw [← hL, ← hN] at HLN
  rw [← hL] at HR8 HRO
  rw [← hL, ← hN]
  have hN5 : N ≤ 500 := by rw [hN]; exact hs
  have HSZ := Lib.hid (show s.size ≤ 70368744177664 by omega)
  clear hL hN ha hs
  go_enter Tryd.func38, Tryd.ntmps38
  go_wp2_with (first | ((with_reducible refine gate_dst (N := 22) rfl ?_); refine Kd.R_runes _ 21 rfl (N := 22) rfl 9 38 _ rfl s rfl Tryd.underlying9 Tryd.underlying38 Tryd.underlying21 (ok := fun _ => True) trivial HSZ.out (Below.refl _ _) (Nat.le_refl _) ?_) | fail)
  intro v1 w1 hr1 hb1 hg1 b1 hn1 hn2
  rw [HRO.out] at hr1
  obtain ⟨A, c, rfl, hle, hC⟩ := Kd.R_reads hr1
  rw [HLN.out] at hr1 ⊢
  have HR := Lib.hid (show Kd.R (Kd.int .i32) 21 w1 w.heap.size (fun _ => True) (.slice A N c) ((capK L 0).1 ++ L.drop 0) from hr1)
  have HB := Lib.hid hb1
  clear hr1 hb1 hg1 hn1 hn2 hC hle
  have HST := Lib.hid (show ∀ k, k < N → ∃ n, L[k]? = some n ∧ 0 ≤ n ∧ n < 128 ∧ rdOf 0 ((capK L k).1 ++ L.drop k) (k : Int) = n ∧ capK L (k + 1) = capSt (capK L k) n ∧ (capK L k).1 ++ L.drop k = (capK L k).1 ++ n :: L.drop (k + 1) from fun k hk => by
    have hkl : k < L.length := by rw [HLN.out]; exact hk
    have h1 := HR8.out L[k] (List.getElem_mem hkl)
    refine ⟨L[k], by simp [hkl], h1.1, h1.2, ?_, capK_succ hkl, by rw [List.drop_eq_getElem_cons hkl]⟩
    have h2 := capK_len (L := L) (k := k) (by omega)
    unfold rdOf
    rw [Int.toNat_natCast, List.getD_eq_getElem?_getD, List.getElem?_append_right (by omega), h2]
    simp [hkl])
  have HCL := Lib.hid (show ∀ k, k ≤ N → (capK L k).1.length = k from fun k hk => capK_len (by rw [HLN.out]; exact hk))
  have HTOT := Lib.hid (show ∀ k, k ≤ N → ((capK L k).1 ++ L.drop k).length = N from fun k hk => by rw [List.length_append, HCL.out k hk, List.length_drop, HLN.out]; omega)
  go_wp2
  go_loopw [7, 8, 9] (fun f i ch wr => ∃ (k : Nat) (cv : Value), f = .bool (capK L k).2 ∧ i = .int .i64 k ∧ cv = ch ∧ k ≤ N ∧ Hid (Kd.R (Kd.int .i32) 21 wr w.heap.size (fun _ => True) (.slice A N c) ((capK L k).1 ++ L.drop k)) ∧ Hid (Below w.heap.size w wr)) (fun _ i _ _ => N - (intOf i).toNat)
  case atStart => exact ⟨0, _, rfl, rfl, rfl, Nat.zero_le _, HR, HB⟩
  case round =>
    clear HR HB
    obtain ⟨k, cv, rfl, rfl, rfl, hk, hR, hB⟩ := hrel
    by_cases ck : k < N
    · obtain ⟨n, hn, n0, n1, hrd, hst, hsp⟩ := HST.out k ck
      have hR0 := hR.out
      rw [← HTOT.out k hk] at hR0
      obtain ⟨inner, ho⟩ := Kd.R_own hR0
      obtain ⟨g, rfl, hBg⟩ : ∃ g, A = some ⟨g, 0, none⟩ ∧ w.heap.size ≤ g := by
        rcases ho.2 with ⟨_, h2⟩ | ⟨g, cap, cur, h1, hb, hg, _⟩
        · rw [HTOT.out k hk] at h2; omega
        · injection h1 with h1 _ _
          exact ⟨g, h1, hb⟩
      have q0 := Kd.R_cell (d := (0 : Int)) hR0 (k : Int) (by omega) (by rw [HTOT.out k hk]; omega)
      rw [Int.toNat_natCast, hrd] at q0
      obtain ⟨q1, z1⟩ := q0
      have HI := Lib.hid (fun W => isDelim_call n W n0 n1)
      have hLow := low_range n0 n1
      have HPUT := Lib.hid (fun (W : World) (h : Kd.R (Kd.int .i32) 21 W w.heap.size (fun _ => True) (.slice (some ⟨g, 0, none⟩) N c) ((capK L k).1 ++ L.drop k)) (y : Int) => show Kd.R (Kd.int .i32) 21 (W.setCell ⟨g, k, none⟩ (.int .i32 y)) w.heap.size (fun _ => True) (.slice (some ⟨g, 0, none⟩) N c) ((capK L k).1 ++ y :: L.drop (k + 1)) from by
        have h2 := Kd.R_putn h (k : Int) y
        rw [Int.toNat_natCast, hsp, List.set_append_right _ _ (by rw [HCL.out k hk]; exact Nat.le_refl _), HCL.out k hk, Nat.sub_self, List.set_cons_zero] at h2
        exact h2)
      have HR0 := Lib.hid hR.out
      clear hR0 ho hrd hR
      cases hsx : Lib.isSpaceL n with
      | true =>
        have HC1 := Lib.hid (show capK L (k + 1) = ((capK L k).1 ++ [n], true) by rw [hst]; unfold capSt; rw [hsx]; rfl)
        have HR1 := Lib.hid (show Kd.R (Kd.int .i32) 21 wr w.heap.size (fun _ => True) (.slice (some ⟨g, 0, none⟩) N c) ((capK L (k + 1)).1 ++ L.drop (k + 1)) by rw [HC1.out, List.append_assoc]; have := HR0.out; rw [hsp] at this; exact this)
        rw [hsx] at HI
        clear hst hsp HR0 HPUT
        go_wp2_with fail
        refine (HI.out _).mono ?_
        rintro e w2 ⟨rfl, rfl⟩
        clear HI
        go_wp2
        go_roundw
        case rel => exact ⟨k + 1, _, by rw [HC1.out], by go_num, rfl, by omega, HR1, hB⟩
        case measure => simp [intOf]; omega
      | false =>
        rw [hsx] at HI
        cases hf : (capK L k).2 with
        | false =>
          have HC1 := Lib.hid (show capK L (k + 1) = ((capK L k).1 ++ [n], false) by rw [hst]; unfold capSt; rw [hsx, hf]; rfl)
          have HR1 := Lib.hid (show Kd.R (Kd.int .i32) 21 wr w.heap.size (fun _ => True) (.slice (some ⟨g, 0, none⟩) N c) ((capK L (k + 1)).1 ++ L.drop (k + 1)) by rw [HC1.out, List.append_assoc]; have := HR0.out; rw [hsp] at this; exact this)
          clear hst hsp HR0 HPUT
          go_wp2_with fail
          refine (HI.out _).mono ?_
          rintro e w2 ⟨rfl, rfl⟩
          clear HI
          go_wp2
          go_roundw
          case rel => exact ⟨k + 1, _, by rw [HC1.out], by go_num, rfl, by omega, HR1, hB⟩
          case measure => simp [intOf]; omega
        | true =>
          have HC1 := Lib.hid (show capK L (k + 1) = ((capK L k).1 ++ [Lib.toLowerR n], false) by rw [hst]; unfold capSt; rw [hsx, hf]; rfl)
          have HR1 := Lib.hid (show Kd.R (Kd.int .i32) 21 (wr.setCell ⟨g, k, none⟩ (.int .i32 (Lib.toLowerR n))) w.heap.size (fun _ => True) (.slice (some ⟨g, 0, none⟩) N c) ((capK L (k + 1)).1 ++ L.drop (k + 1)) by rw [HC1.out, List.append_assoc]; exact HPUT.out _ HR0.out _)
          have HB1 := Lib.hid (hB.out.setCell (p := ⟨g, k, none⟩) hBg (.int .i32 (Lib.toLowerR n)))
          have HLW := Lib.hid (fun W => Tryd.unicode_ToLower n W (by omega))
          clear hst hsp HR0 HPUT
          generalize Lib.toLowerR n = y at *
          go_wp2_with fail
          refine (HI.out _).mono ?_
          rintro e w2 ⟨rfl, rfl⟩
          clear HI
          go_wp2_with fail
          refine (HLW.out _).mono ?_
          rintro e w3 ⟨rfl, rfl⟩
          clear HLW
          go_wp2
          go_roundw
          case rel => exact ⟨k + 1, _, by rw [HC1.out], by go_num, rfl, by omega, HR1, HB1⟩
          case measure => simp [intOf]; omega
    · obtain rfl : k = N := by omega
      have HF := Lib.hid (show Kd.C (Kd.int .i32) wr A k (capK L k).1 by
        have h1 := hR.out
        rw [List.drop_of_length_le (by rw [HLN.out]; exact Nat.le_refl _), List.append_nil] at h1
        obtain ⟨A', c', he, _, hC⟩ := Kd.R_reads h1
        injection he with hA hn _
        subst hA
        rw [HCL.out k hk] at hC
        exact hC)
      have hcv : (convert 38 9 (.slice A k c)).run Tryd.prog wr = .ok (.string (txI (capK L k).1)) wr := by
        rw [← txI_runes (capK_range HR8.out (k := k) (by rw [HLN.out]; exact Nat.le_refl _))]
        exact Kd.C_runestring Tryd.underlying38 Tryd.underlying21 Tryd.underlying9 HF.out
      clear HST HCL HTOT hR
      go_wp2
      go_ret
      exact ⟨rfl, hB.out⟩
end Go.Proofs.YtjpibaehpmkdmaaDoor.P
