import Derived.Test.YtgjcejgcljjdhaaGreatDoorB7
import Derived.RegionTactic
import Derived.ChangeAlike
set_option linter.unusedVariables false
namespace Go.Proofs.YtgjcejgcljjdhaaGreatDoor.P
open Go.RowKit Go.Proofs.YtgjcejgcljjdhaaGreatDoorW.PrintWords Go.Proofs.YtgjcejgcljjdhaaGreatDoorW.PrintLast Go.Proofs.YtgjcejgcljjdhaaGreatDoorW.PrintMore
def leB (a b : ByteArray) : Prop := Op.bytesLess b.toList a.toList = false
/-- The inner loop's row: pre, x, mid, rest; x is less than all of mid. -/
def InsB (N : Nat) (l : List ByteArray) (i k : Nat) (v : Value) (B : Nat) (w : World) : Prop :=
  ∃ pre x mid rest, Kd.string.R 9 w B (fun _ => True) v (pre ++ x :: (mid ++ rest)) ∧ (pre ++ x :: (mid ++ rest)).Perm l ∧ pre.length = k ∧ pre.length + mid.length = i ∧ (pre ++ mid).Pairwise leB ∧ ∀ y ∈ mid, Op.bytesLess x.toList y.toList = true
theorem lessB_asymm {a b : ByteArray} (h : Op.bytesLess a.toList b.toList = true) : leB a b := by
  have := bytesLe_not a.toList b.toList
  rw [h] at this
  show Op.bytesLess b.toList a.toList = false
  simpa using this.symm
theorem InsB.done0 {N : Nat} {l : List ByteArray} {i : Nat} {v : Value} {B : Nat} {w : World} (h : InsB N l i 0 v B w) (hN : N = l.length) (hi : i < N) : ∃ xs, Kd.string.R 9 w B (fun _ => True) v xs ∧ xs.Perm l ∧ (xs.take (i + 1)).Pairwise leB := by
  obtain ⟨pre, x, mid, rest, h1, h2, h3, h4, h5, h6⟩ := h
  obtain rfl := List.eq_nil_of_length_eq_zero h3
  refine ⟨_, h1, h2, ?_⟩
  rw [List.nil_append, List.take_succ_cons, List.take_left' (by simpa using h4)]
  exact List.pairwise_cons.2 ⟨fun y hy => lessB_asymm (h6 y hy), by simpa using h5⟩
theorem leB_trans {a b c : ByteArray} (h1 : leB a b) (h2 : leB b c) : leB a c := by
  have e1 := (Go.Proofs.bytesLess_eq b.toList a.toList).symm.trans h1
  have e2 := (Go.Proofs.bytesLess_eq c.toList b.toList).symm.trans h2
  exact (Go.Proofs.bytesLess_eq c.toList a.toList).trans (Go.Sort.swo_ltStr.ntrans _ _ _ e2 e1)
theorem R_sl {N : Nat} {A1 : Option Addr} {c1 : Nat} {B : Nat} {w : World} {xs : List ByteArray} (h : Kd.string.R 9 w B (fun _ => True) (.slice A1 N c1) xs) (hl : xs.length = N) (h0 : 0 < N) : ∃ g, A1 = some ⟨g, 0, none⟩ ∧ B ≤ g ∧ g < w.heap.size := by
  obtain ⟨inner, ho⟩ := Kd.R_own h
  rcases ho.2 with ⟨_, h2⟩ | ⟨g, cap, cur, h1, hb, hg, _⟩
  · omega
  · injection h1 with h1 _ _
    exact ⟨g, h1, hb, (Array.getElem?_eq_some_iff.1 hg).1⟩
theorem InsB.parts {N : Nat} {l : List ByteArray} {i k : Nat} {A1 : Option Addr} {c1 B : Nat} {w : World} (h : InsB N l i (k + 1) (.slice A1 N c1) B w) (hN : N = l.length) (hi : i < N) : ∃ g p x, A1 = some ⟨g, 0, none⟩ ∧ B ≤ g ∧ w.cell? ⟨g, k, none⟩ = some (.string p) ∧ w.cell? ⟨g, k + 1, none⟩ = some (.string x) ∧ w.frozen? ⟨g, k, none⟩ = false ∧ w.frozen? ⟨g, k + 1, none⟩ = false ∧
    (Op.bytesLess x.toList p.toList = true → ∀ m, InsB N l i k (.slice A1 N c1) B (((w.drewN m).setCell ⟨g, k + 1, none⟩ (.string p)).setCell ⟨g, k, none⟩ (.string x))) ∧
    (Op.bytesLess x.toList p.toList = false → ∃ xs, Kd.string.R 9 w B (fun _ => True) (.slice A1 N c1) xs ∧ xs.Perm l ∧ (xs.take (i + 1)).Pairwise leB) := by
  obtain ⟨pre, x, mid, rest, h1, h2, h3, h4, h5, h6⟩ := h
  obtain ⟨p, q, hpq⟩ : ∃ q p, pre = q ++ [p] := ⟨pre.dropLast, pre.getLast (by intro e; rw [e] at h3; simp at h3), (List.dropLast_concat_getLast _).symm⟩
  obtain ⟨pre', rfl⟩ : ∃ z, z = p := ⟨_, rfl⟩
  subst hpq
  have hk : pre'.length = k := by simpa using h3
  subst hk
  have hlen : ((pre' ++ [q]) ++ x :: (mid ++ rest)).length = N := by rw [h2.length_eq, hN]
  obtain ⟨g, rfl, hBg, _⟩ := R_sl h1 hlen (by omega)
  have hR := h1
  rw [← hlen] at hR
  have c0 := Kd.R_cell (d := ByteArray.empty) hR (pre'.length : Int) (by omega) (by simp; omega)
  have c1' := Kd.R_cell (d := ByteArray.empty) hR ((pre'.length + 1 : Nat) : Int) (by omega) (by simp; omega)
  rw [Int.toNat_natCast] at c0 c1'
  have e0 : rdOf ByteArray.empty ((pre' ++ [q]) ++ x :: (mid ++ rest)) (pre'.length : Int) = q := by
    simp [rdOf, List.getD_eq_getElem?_getD]
  have e1 : rdOf ByteArray.empty ((pre' ++ [q]) ++ x :: (mid ++ rest)) ((pre'.length + 1 : Nat) : Int) = x := by
    unfold rdOf
    rw [Int.toNat_natCast, List.getD_eq_getElem?_getD, List.getElem?_append_right (by simp)]
    simp
  rw [e0] at c0
  rw [e1] at c1'
  refine ⟨g, q, x, rfl, hBg, c0.1, c1'.1, c0.2, c1'.2, fun hlt m => ?_, fun hge => ?_⟩
  · refine ⟨pre', x, q :: mid, rest, ?_, ?_, rfl, by simp at h4 ⊢; omega, by simpa using h5, fun y hy => ?_⟩
    · have s1 := Kd.R_putn (Kd.R_drewN h1 m) ((pre'.length + 1 : Nat) : Int) q
      have s2 := Kd.R_putn s1 (pre'.length : Int) x
      rw [Int.toNat_natCast, Int.toNat_natCast] at s2
      have e2 : ((((pre' ++ [q]) ++ x :: (mid ++ rest)).set (pre'.length + 1) q).set pre'.length x) = pre' ++ x :: (q :: mid ++ rest) := by
        apply List.ext_getElem?
        intro j
        simp only [List.getElem?_set, List.length_set]
        rcases Nat.lt_trichotomy j pre'.length with hj | hj | hj
        · rw [if_neg (by omega), if_neg (by omega), List.append_assoc, List.getElem?_append_left hj, List.getElem?_append_left hj]
        · subst hj
          rw [if_pos rfl, if_pos (by simp), List.getElem?_append_right (Nat.le_refl _)]
          simp
        · rw [if_neg (by omega)]
          by_cases hj1 : j = pre'.length + 1
          · subst hj1
            rw [if_pos rfl, if_pos (by simp), List.getElem?_append_right (by omega)]
            simp
          · rw [if_neg (by omega), List.getElem?_append_right (by simp; omega), List.getElem?_append_right (by omega)]
            obtain ⟨m, rfl⟩ : ∃ m, j = pre'.length + 2 + m := ⟨j - (pre'.length + 2), by omega⟩
            have a1 : pre'.length + 2 + m - (pre' ++ [q]).length = m + 1 := by simp; omega
            have a2 : pre'.length + 2 + m - pre'.length = m + 2 := by omega
            rw [a1, a2]
            simp
      rw [e2] at s2
      exact s2
    · refine List.Perm.trans ?_ h2
      rw [List.append_assoc]
      refine List.Perm.append_left pre' ?_
      exact List.Perm.swap q x (mid ++ rest)
    · rcases List.mem_cons.1 hy with rfl | hy
      · exact hlt
      · exact h6 y hy
  · refine ⟨_, h1, h2, ?_⟩
    have ht : ((pre' ++ [q]) ++ x :: (mid ++ rest)).take (i + 1) = (pre' ++ [q]) ++ x :: mid := by
      have e : (pre' ++ [q]) ++ x :: (mid ++ rest) = ((pre' ++ [q]) ++ x :: mid) ++ rest := by simp
      rw [e]
      refine List.take_left' ?_
      simp at h4 ⊢
      omega
    rw [ht]
    have hq := List.pairwise_append.1 h5
    have hp := List.pairwise_append.1 hq.1
    have hxm : ∀ a ∈ pre' ++ [q], leB a x := fun a ha => by
      rcases List.mem_append.1 ha with ha | ha
      · exact leB_trans (hp.2.2 a ha q (by simp)) hge
      · rw [List.mem_singleton.1 ha]
        exact hge
    refine List.pairwise_append.2 ⟨hq.1, List.pairwise_cons.2 ⟨fun y hy => lessB_asymm (h6 y hy), hq.2.1⟩, fun a ha b hb => ?_⟩
    rcases List.mem_cons.1 hb with rfl | hb
    · exact hxm a ha
    · exact hq.2.2 a ha b hb
set_option maxHeartbeats 3200000 in
set_option maxRecDepth 100000 in
theorem sorted_call (l : List ByteArray) (A : Option Addr) (c : Nat) (w : World) (hl : l.length ≤ 1000) (hc : Kd.string.C w A l.length l) :
    Calls Tryz.prog 15 #[.slice A l.length c] w fun e w' => ∃ u xs, e = .returned u ∧ Kd.string.R 9 w' w.heap.size (fun _ => True) u xs ∧ xs.Perm l ∧ xs.Pairwise leB ∧ Below w.heap.size w w' := by
  have HC := Lib.hid hc
  clear hc
  obtain ⟨N, hNN⟩ : ∃ N, N = l.length := ⟨_, rfl⟩
  have HN := Lib.hid hNN
  rw [← hNN] at hl ⊢
  clear hNN
  have HB1 := Lib.hid ((Below.refl w.heap.size w).alloc (Nat.le_refl _) (.cells #[] 9))
  have HR1 := Lib.hid (show Kd.string.R 9 (w.alloc (.cells #[] 9)) w.heap.size (fun _ => True) (.slice (some ⟨w.heap.size, 0, none⟩) 0 0) [] from ⟨fun _ _ => trivial, OwnRow.lit (inner := []) w w.heap.size (Reps.none _ _) (Nat.le_refl _) (by decide)⟩)
  have HCC := Lib.hid (show Kd.string.C (w.alloc (.cells #[] 9)) A N l by rw [HN.out]; exact Kd.C_below HC.out ((Below.refl _ _).alloc (Nat.le_refl _) _))
  go_enter Tryz.func15, Tryz.ntmps15
  go_wp2_with (at_builtin; refine Kd.R_append_rows Kd.string (w0 := w) w.heap.size rfl _ _ 27 9 (.string ⟨#[]⟩) 16 rfl Tryz.underlying27 info_str rfl (Nat.succ_pos 0) (by decide) (.slice (some ⟨w.heap.size, 0, none⟩) 0 0) [] l A N c (fun _ => True) (fun _ => False) rfl rfl HR1.out HCC.out (fun _ _ h => h) (fun _ h => h.elim) (fun _ _ => trivial) HB1.out HB1.out.size (by simp; omega) ?_)
  intro v1 w2 h1 hb2 hg2 hat2
  obtain ⟨v0, hv0⟩ : ∃ v0, v0 = v1 := ⟨_, rfl⟩
  have HR2 := Lib.hid (show ∃ xs, Kd.string.R 9 w2 w.heap.size (fun _ => True) v0 xs ∧ xs.Perm l ∧ (xs.take 0).Pairwise leB from ⟨l, by rw [hv0]; exact h1, List.Perm.refl _, by rw [List.take_zero]; exact List.Pairwise.nil⟩)
  have HB2 := Lib.hid hb2
  obtain ⟨A1, c1, hsl, hle1, -⟩ := Kd.R_reads h1
  subst hsl
  subst hv0
  clear h1 hb2 hg2 hat2 HR1 HB1 HCC hle1
  rw [← HN.out] at HR2 ⊢
  go_wp2
  go_loopw [4, 5, 11] (fun y4 y5 i wr => ∃ (k : Nat) (z4 z5 : Value), z4 = y4 ∧ z5 = y5 ∧ i = .int .i64 k ∧ k ≤ N ∧ Hid (∃ xs, Kd.string.R 9 wr w.heap.size (fun _ => True) (.slice A1 N c1) xs ∧ xs.Perm l ∧ (xs.take k).Pairwise leB) ∧ Hid (Below w.heap.size w wr)) (fun _ _ i _ => N - (intOf i).toNat)
  case atStart => exact ⟨0, _, _, rfl, rfl, rfl, Nat.zero_le _, HR2, HB2⟩
  case round =>
    clear HR2 HB2
    obtain ⟨i, z4, z5, rfl, rfl, rfl, hi, hR, hB⟩ := hrel
    by_cases ck : i < N
    · have HI := Lib.hid (show InsB N l i i (.slice A1 N c1) w.heap.size wr by
        obtain ⟨xs, h1, h2, h3⟩ := hR.out
        have hlen : xs.length = N := by rw [h2.length_eq, HN.out]
        have hix : i < xs.length := by omega
        exact ⟨xs.take i, xs[i], [], xs.drop (i + 1), by rw [List.nil_append, ← List.drop_eq_getElem_cons hix, List.take_append_drop]; exact h1, by rw [List.nil_append, ← List.drop_eq_getElem_cons hix, List.take_append_drop]; exact h2, by rw [List.length_take]; omega, by rw [List.length_take, List.length_nil]; omega, by rw [List.append_nil]; exact h3, fun y hy => by cases hy⟩)
      clear hR
      go_wp2
      go_loopw [5] (fun y5 wr => ∃ (k : Nat), y5 = .int .i64 k ∧ k ≤ i ∧ Hid (InsB N l i k (.slice A1 N c1) w.heap.size wr) ∧ Hid (Below w.heap.size w wr)) (fun y5 _ => (intOf y5).toNat)
      case atStart => exact ⟨i, rfl, Nat.le_refl _, HI, hB⟩
      case round =>
        clear HI hB
        obtain ⟨k, rfl, hk, hI, hB⟩ := hrel
        cases k with
        | zero =>
          have HD := Lib.hid (hI.out.done0 HN.out ck)
          clear hI
          go_wp2
          go_quiet (fail)
          go_wp2
          go_roundw
          case rel => exact ⟨i + 1, _, _, rfl, rfl, by go_num, by omega, HD, Lib.hid (pw_below_drewN hB.out _)⟩
          case measure => simp [intOf]; omega
        | succ k =>
          obtain ⟨g, p, x, rfl, hBg, q0, q1, z0, z1, hlt, hge⟩ := hI.out.parts HN.out ck
          have HLT := Lib.hid hlt
          have HGE := Lib.hid hge
          have HBG := Lib.hid hBg
          have hsub : ((k + 1 : Nat) : Int) - 1 = (k : Int) := by omega
          have i0 : (0 : Int) ≤ (k : Int) := by omega
          have i1 : (k : Int) < (N : Int) := by omega
          have i2 : ((k + 1 : Nat) : Int) < (N : Int) := by omega
          have i3 : (0 : Int) ≤ ((k + 1 : Nat) : Int) := by omega
          have i4 : decide ((0 : Int) < ((k + 1 : Nat) : Int)) = true := decide_eq_true (by omega)
          clear hlt hge hI
          cases hc : Op.bytesLess x.toList p.toList with
          | false =>
            have HD := Lib.hid (HGE.out hc)
            clear HLT HGE
            go_wp2
            go_quiet (fail)
            go_wp2
            go_roundw
            case rel => exact ⟨i + 1, _, _, rfl, rfl, by go_num, by omega, HD, Lib.hid (pw_below_drewN hB.out _)⟩
            case measure => simp [intOf]; omega
          | true =>
            have HI2 := Lib.hid (HLT.out hc)
            clear HLT HGE
            go_wp2
            go_quiet (fail)
            go_wp2
            go_region
            all_goals
              have HB2 := Lib.hid (((pw_below_drewN hB.out (nq + 1)).setCell (p := ⟨g, k + 1, none⟩) HBG.out (.string p)).setCell (p := ⟨g, k, none⟩) HBG.out (.string x))
              have HI3 := Lib.hid (HI2.out (nq + 1))
              clear HI2 q0 q1 z0 z1
              generalize (((wr.drewN (nq + 1)).setCell ⟨g, k + 1, none⟩ (.string p)).setCell ⟨g, k, none⟩ (.string x)) = w9 at *
              go_wp2
              go_roundw
              case rel => exact ⟨k, rfl, by omega, HI3, HB2⟩
              case measure => simp [intOf]
    · have hkn : i = N := by omega
      subst hkn
      have HFIN := Lib.hid (show ∃ xs, Kd.string.R 9 wr w.heap.size (fun _ => True) (.slice A1 i c1) xs ∧ xs.Perm l ∧ xs.Pairwise leB by
        obtain ⟨xs, h1, h2, h3⟩ := hR.out
        rw [List.take_of_length_le (by rw [h2.length_eq, ← HN.out]; exact Nat.le_refl _)] at h3
        exact ⟨xs, h1, h2, h3⟩)
      clear hR
      go_wp2
      go_ret
      obtain ⟨xs, h1, h2, h3⟩ := HFIN.out
      exact ⟨_, xs, rfl, h1, h2, h3, hB.out⟩
end Go.Proofs.YtgjcejgcljjdhaaGreatDoor.P
