/- spec.Told; FnToString holds. -/
import Derived.Test.YtgjcejgcljjdhaaDoorB4w
import Derived.Test.YtgjcejgcljjdhaaDoorVV
set_option linter.unusedVariables false
set_option linter.unusedSimpArgs false
namespace Go.Proofs.YtgjcejgcljjdhaaDoor.P
open Go.RowKit Go.Proofs.YtgjcejgcljjdhaaDoorW.PrintWords Go.Proofs.YtgjcejgcljjdhaaDoorW.PrintLast Go.Proofs.YtgjcejgcljjdhaaDoorW.PrintMore
attribute [local go_sem] run_store_float

/-- Of which it is sure how they are written. -/
def sureV (x : S28) : Bool := decide (x.f0 = 1 ∨ x.f0 = 2 ∨ x.f0 = 3 ∨ x.f0 = 5)
theorem sure_simp {x : S28} (h : sureV x = true) (h1 : -9223372036854775808 ≤ x.f1) (h2 : x.f1 ≤ 9223372036854775807) : simpV x = true ∧ fullV x = true := by
  have h0 : x.f0 = 1 ∨ x.f0 = 2 ∨ x.f0 = 3 ∨ x.f0 = 5 := of_decide_eq_true h
  refine ⟨?_, ?_⟩
  · simp only [simpV, Bool.and_eq_true, decide_eq_true_eq]
    exact ⟨⟨⟨by omega, Nat.zero_le _⟩, h1⟩, h2⟩
  · simp only [fullV, bne_iff_ne, ne_eq]
    omega
set_option maxHeartbeats 3200000 in
set_option maxRecDepth 100000 in
theorem decimal_call (n : Int) (h0 : -9223372036854775808 ≤ n) (h1 : n ≤ 9223372036854775807) (w : World) (hT : TabsW w) : Calls Tryd.prog 18 #[.int .i64 n] w fun e w' => e = .returned (.string ⟨(Lib.itoa n).toArray⟩) ∧ Below w.heap.size w w' := by
  have HT := Lib.hid hT
  clear hT
  go_enter Tryd.func18, Tryd.ntmps18
  go_wp2_with fail
  refine (Tryd.strconv_FormatInt_10 n h0 h1 w HT.out).mono ?_
  rintro e w' ⟨rfl, k, os, rfl⟩
  have HG := Lib.hid (below_grow_ w k os)
  generalize Sort.grow (w.drewN k) os = w2 at *
  go_wp2
  go_ret
  exact ⟨rfl, HG.out⟩
set_option maxHeartbeats 3200000 in
set_option maxRecDepth 100000 in
theorem told_call (x : S28) (A4 : Option Addr) (c4 : Nat) (A5 : Option Addr) (c5 : Nat) (w : World) (h2 : -9223372036854775808 ≤ x.f1) (h3 : x.f1 ≤ 9223372036854775807) (hT : TabsW w) :
    Calls Tryd.prog 6 #[.agg #[.int .i64 x.f0, .int .i64 x.f1, .float .f64 x.f2, .string x.f3, .slice A4 x.f4.length c4, .slice A5 x.f5.length c5]] w fun e w' => ∃ t, e = .returned (.tuple #[.string t, .bool (sureV x)]) ∧ (sureV x = true → t = txtV x) ∧ Below w.heap.size w w' := by
  obtain ⟨f0, f1, f2, f3, f4, f5⟩ := x
  simp only at *
  have HB := Lib.hid (fun o => (Below.refl w.heap.size w).alloc (Nat.le_refl _) o)
  have HW := Lib.hid (fun W (hb : Below w.heap.size w W) => decimal_call f1 h2 h3 W (hT.below hb))
  clear h2 h3 hT
  by_cases c1 : f0 = 1
  · subst c1
    by_cases hf : f1 = 1
    · subst hf
      go_enter Tryd.func6, Tryd.ntmps6
      go_wp2
      go_ret2
      exact ⟨_, rfl, (fun h => by simp only [txtV, if_true]; exact (by decide +kernel : (⟨#[116, 114, 117, 101]⟩ : ByteArray) = ⟨(Lib.formatBool ((1 : Int) == 1)).toArray⟩)), HB.out _⟩
    · have hb : (f1 == 1) = false := beq_eq_false_iff_ne.2 hf
      have HT := Lib.hid (show txtV ⟨1, f1, f2, f3, f4, f5⟩ = ⟨#[102, 97, 108, 115, 101]⟩ by simp only [txtV, if_true, hb]; exact (by decide +kernel : (⟨(Lib.formatBool false).toArray⟩ : ByteArray) = ⟨#[102, 97, 108, 115, 101]⟩))
      clear hf
      go_enter Tryd.func6, Tryd.ntmps6
      go_wp2
      go_ret2
      exact ⟨_, rfl, (fun h => HT.out.symm), HB.out _⟩
  by_cases c2 : f0 = 2
  · subst c2
    clear c1
    go_enter Tryd.func6, Tryd.ntmps6
    go_wp2_with fail
    refine (HW.out _ (HB.out _)).mono ?_
    rintro e w1 ⟨rfl, hb1⟩
    have HB1 := Lib.hid ((HB.out _).trans (hb1.mono (by simp)))
    clear hb1 HW
    go_wp2
    go_ret2
    exact ⟨_, rfl, (fun h => rfl), HB1.out⟩
  by_cases c3 : f0 = 3
  · subst c3
    clear c1 c2
    go_enter Tryd.func6, Tryd.ntmps6
    go_wp2_with fail
    refine (HW.out _ (HB.out _)).mono ?_
    rintro e w1 ⟨rfl, hb1⟩
    have HB1 := Lib.hid ((HB.out _).trans (hb1.mono (by simp)))
    clear hb1 HW
    go_wp2
    go_ret2
    exact ⟨_, rfl, (fun h => rfl), HB1.out⟩
  by_cases c5 : f0 = 5
  · subst c5
    clear c1 c2 c3
    go_enter Tryd.func6, Tryd.ntmps6
    go_wp2
    go_ret2
    exact ⟨_, rfl, (fun h => rfl), HB.out _⟩
  have b1 : (f0 == 1) = false := beq_eq_false_iff_ne.2 c1
  have b2 : (f0 == 2) = false := beq_eq_false_iff_ne.2 c2
  have b3 : (f0 == 3) = false := beq_eq_false_iff_ne.2 c3
  have b5 : (f0 == 5) = false := beq_eq_false_iff_ne.2 c5
  have hs : sureV ⟨f0, f1, f2, f3, f4, f5⟩ = false := decide_eq_false (by simp [c1, c2, c3, c5])
  rw [hs]
  clear c1 c2 c3 c5 hs
  go_enter Tryd.func6, Tryd.ntmps6
  go_wp2
  go_ret2
  exact ⟨_, rfl, (fun h => by cases h), HB.out _⟩
theorem all_full {l : List S28} (h : ∀ x ∈ l, fullV x = true) : l.filter fullV = l := List.filter_eq_self.2 h
set_option maxHeartbeats 3200000 in
set_option maxRecDepth 100000 in
theorem fnToString (l : List S28) (A : Option Addr) (c : Nat) (w : World) (hw : ∀ y ∈ l, Whole64 y) (hA : k28.C w A l.length l) (hc : l.length ≤ c) (hT : TabsW w) :
    Calls Tryd.prog 3 #[.slice A l.length c] w fun e w' => e = .returned (.bool true) ∧ Below w.heap.size w w' := by
  have HW := Lib.hid (show ∀ y ∈ l, -9223372036854775808 ≤ y.f1 ∧ y.f1 ≤ 9223372036854775807 from fun y hy => by
    cases hw y hy with
    | mk _ h1 h2 _ => exact ⟨h1, h2⟩)
  have HC := Lib.hid hA
  have HT := Lib.hid hT
  have HB := Lib.hid (Below.refl w.heap.size w)
  clear hw hA hT
  by_cases hk0 : 2147483647 < (l.length : Int)
  · have hd0 : decide (2147483647 < (l.length : Int)) = true := decide_eq_true hk0
    go_enter Tryd.func3, Tryd.ntmps3
    go_wp2
    go_ret
    exact ⟨rfl, HB.out⟩
  have hd0 : decide (2147483647 < (l.length : Int)) = false := decide_eq_false hk0
  by_cases hk1 : 50 < (l.length : Int)
  · have hd1 : decide (50 < (l.length : Int)) = true := decide_eq_true hk1
    clear hk0 hk1
    go_enter Tryd.func3, Tryd.ntmps3
    go_wp2
    go_ret
    exact ⟨rfl, HB.out⟩
  have hd1 : decide (50 < (l.length : Int)) = false := decide_eq_false hk1
  have hl : l.length ≤ 50 := by omega
  clear hk0 hk1
  obtain ⟨N, hNN⟩ : ∃ N, N = l.length := ⟨_, rfl⟩
  have HN := Lib.hid hNN
  obtain ⟨L, hLL⟩ : ∃ L, L = l.map txtV := ⟨_, rfl⟩
  have HL := Lib.hid hLL
  have HLN := Lib.hid (show L.length = N by rw [hLL, List.length_map, hNN])
  rw [← hNN] at hl hd0 hd1 ⊢
  clear hNN hLL
  have HG := Lib.hid (show Kd.string.R 9 w w.heap.size (fun _ => True) (.slice none 0 0) [] from Kd.R_nil _ _ _ _ _)
  have HS := Lib.hid (Nat.le_refl w.heap.size)
  have HU := Lib.hid (show ∀ j, j < 0 → sureV (l.getD j z28) = true from fun j h => absurd h (by omega))
  go_enter Tryd.func3, Tryd.ntmps3
  go_wp2
  go_loopw [3, 4, 5, 6] (fun v i y5 y6 wr => ∃ (k : Nat) (v' z5 z6 : Value), v' = v ∧ z5 = y5 ∧ z6 = y6 ∧ i = .int .i64 k ∧ k ≤ N ∧ Hid (Kd.string.R 9 wr w.heap.size (fun _ => True) v' (L.take k)) ∧ Hid (Below w.heap.size w wr) ∧ Hid (w.heap.size ≤ wr.heap.size) ∧ Hid (∀ j, j < k → sureV (l.getD j z28) = true)) (fun _ i _ _ _ => N - (intOf i).toNat)
  case atStart => exact ⟨0, _, _, _, rfl, rfl, rfl, rfl, Nat.zero_le _, by rw [List.take_zero]; exact HG, HB, HS, HU⟩
  case round =>
    clear HG HB HS HU
    obtain ⟨k, v, z5, z6, rfl, rfl, rfl, rfl, hk, hG, hB, hS, hU⟩ := hrel
    by_cases ck : k < N
    · obtain ⟨ad, A4, c4, A5, c5, rfl, q0, q1, q2, q3, q4, q5, l4, g4, l5, g5⟩ := at_T28 (Kd.C_below HC.out hB.out) (k : Int) (by omega) (by rw [← HN.out]; omega)
      simp only [Int.toNat_natCast] at q0 q1 q2 q3 q4 q5
      have hkl : k < l.length := by rw [← HN.out]; exact ck
      have hkd : rd_T28 l (k : Int) = l.getD k z28 := by unfold rd_T28; rw [Int.toNat_natCast]
      have HBD := Lib.hid (show -9223372036854775808 ≤ (rd_T28 l (k : Int)).f1 ∧ (rd_T28 l (k : Int)).f1 ≤ 9223372036854775807 by rw [hkd]; exact HW.out _ (getD_mem hkl))
      have HTK := Lib.hid (show L.take (k + 1) = L.take k ++ [txtV (rd_T28 l (k : Int))] by
        have h1 : k < L.length := by rw [HLN.out]; exact ck
        rw [List.take_succ_eq_append_getElem h1]
        congr 2
        simp [HL.out, rd_T28, hkl])
      have HUN := Lib.hid (show sureV (rd_T28 l (k : Int)) = true → ∀ j, j < k + 1 → sureV (l.getD j z28) = true from fun hx j hj => by
        by_cases hjk : j < k
        · exact hU.out j hjk
        · have : j = k := by omega
          subst this
          rw [← hkd]
          exact hx)
      have HLT := Lib.hid (show (L.take k).length = k by rw [List.length_take, HLN.out]; omega)
      have G4 := Lib.hid g4
      have G5 := Lib.hid g5
      have HAD := Lib.hid (fun (W : World) (hb : Below w.heap.size w W) => at_T28 (Kd.C_below HC.out hb) (k : Int) (by omega) (by rw [← HN.out]; omega))
      clear hkd hkl g4 g5 hU
      generalize rd_T28 l (k : Int) = x at *
      have HTO := Lib.hid (told_call x A4 c4 A5 c5 wr HBD.out.1 HBD.out.2 (HT.out.below hB.out))
      cases hsu : sureV x with
      | false =>
        rw [hsu] at HTO
        go_wp2_with fail
        refine HTO.out.mono ?_
        rintro e w1 ⟨t, rfl, _, hb1⟩
        have HB1 := Lib.hid (hB.out.trans (hb1.mono hB.out.size))
        clear hb1 HTO q0 q1 q2 q3 q4 q5 hB
        go_wp2
        go_ret
        exact ⟨rfl, HB1.out⟩
      | true =>
        rw [hsu] at HTO
        obtain ⟨hsx, hfx⟩ := sure_simp hsu HBD.out.1 HBD.out.2
        have HSX := Lib.hid (And.intro hsx hfx)
        have HU2 := Lib.hid (HUN.out hsu)
        clear hsx hfx hsu HUN
        go_wp2_with fail
        refine HTO.out.mono ?_
        rintro e w1 ⟨t, rfl, ht, hb1⟩
        obtain rfl := ht (by trivial)
        have HG2 := Lib.hid (Kd.R_below hG.out hb1)
        have HB1 := Lib.hid (hB.out.trans (hb1.mono hB.out.size))
        have HS1 := Lib.hid (Nat.le_trans hS.out hb1.size)
        have HM := Lib.hid (show Kd.string.M w1 w.heap.size (fun _ => False) (txtV x) [.string (txtV x)] from rfl)
        have HX1 := Lib.hid (fun (B4 : Option Addr) (d4 : Nat) (B5 : Option Addr) (d5 : Nat) (W : World) (hb : Below w.heap.size w W) => implToString x B4 d4 B5 d5 W HSX.out.1 HSX.out.2 (HT.out.below hb))
        have HQ := Lib.hid (And.intro q0 (And.intro q1 (And.intro q2 (And.intro q3 (And.intro q4 q5)))))
        clear hb1 HTO q0 q1 q2 q3 q4 q5 hB hG hS ht
        generalize htt : txtV x = tx at *
        clear htt
        go_wp2_with (at_builtin; refine Kd.R_append Kd.string (w0 := w) w.heap.size rfl _ _ 23 9 (.string ⟨#[]⟩) 16 rfl Tryd.underlying23 info_str rfl (Nat.succ_pos 0) (by decide) v (L.take k) tx [.string tx] (fun _ => True) (fun _ => False) rfl rfl HM.out (fun _ h => h.elim) (fun _ _ => trivial) HG2.out HB1.out HS1.out (by rw [HLT.out]; omega) ?_)
        intro v1 w3 h1 hb3 hgr hat
        have HG3 := Lib.hid (show Kd.string.R 9 w3 w.heap.size (fun _ => True) v1 (L.take (k + 1)) by rw [HTK.out]; exact h1)
        have HB3 := Lib.hid hb3
        have HS3 := Lib.hid (Nat.le_trans HS1.out hgr.size)
        clear h1 hb3 hgr hat HG2 HB1 HS1 HTK HLT HM
        obtain ⟨ad', B4, d4, B5, d5, had, r0, r1, r2, r3, r4, r5, -⟩ := HAD.out w3 HB3.out
        obtain rfl : ad = ad' := by injection had
        simp only [Int.toNat_natCast] at r0 r1 r2 r3 r4 r5
        have HX2 := Lib.hid (HX1.out B4 d4 B5 d5 w3 HB3.out)
        have e1 : (tx.toList != tx.toList) = false := by simp
        have e2 : (tx.toList == tx.toList) = true := by simp
        clear HAD HQ HX1 had
        go_wp2_with fail
        refine HX2.out.mono ?_
        rintro e w4 ⟨rfl, hb4⟩
        have HG4 := Lib.hid (Kd.R_below HG3.out hb4)
        have HB4 := Lib.hid (HB3.out.trans (hb4.mono HB3.out.size))
        have HS4 := Lib.hid (Nat.le_trans HS3.out hb4.size)
        clear hb4 HX2 HG3 HB3 HS3 r0 r1 r2 r3 r4 r5
        go_wp2
        go_roundw
        case rel => exact ⟨k + 1, v1, _, _, rfl, rfl, rfl, by go_num, by omega, HG4, HB4, HS4, HU2⟩
        case measure => simp [intOf]; omega
    · have hkn : k = N := by omega
      subst hkn
      have hall : ∀ x ∈ l, simpV x = true ∧ fullV x = true := fun x hx => by
        obtain ⟨j, hj, rfl⟩ := List.getElem_of_mem hx
        have h1 := hU.out j (by rw [HN.out]; exact hj)
        rw [List.getD_eq_getElem?_getD, List.getElem?_eq_getElem hj] at h1
        exact sure_simp h1 (HW.out _ (List.getElem_mem hj)).1 (HW.out _ (List.getElem_mem hj)).2
      have HTS := Lib.hid (implToStrings l A c wr (fun x hx => (hall x hx).1) (by rw [← HN.out]; omega) (Kd.C_below HC.out hB.out) (HT.out.below hB.out))
      rw [all_full (fun x hx => (hall x hx).2), ← HL.out, ← HN.out] at HTS
      have hG2 := hG.out
      rw [List.take_of_length_le (by rw [HLN.out]; exact Nat.le_refl _)] at hG2
      obtain ⟨A3, c3, rfl, le3, hC3⟩ := Kd.R_reads hG2
      have HC3 := Lib.hid hC3
      clear hall hG hG2 hC3 hU le3
      go_wp2_with fail
      refine HTS.out.mono ?_
      rintro e w1 ⟨u1, rfl, hr1, hb1⟩
      obtain ⟨A4, c4, rfl, le4, hC4⟩ := Kd.R_reads hr1
      have HB1 := Lib.hid (hB.out.trans (hb1.mono hB.out.size))
      have HC31 := Lib.hid (Kd.C_below HC3.out hb1)
      have HC41 := Lib.hid hC4
      have hT5 := implToString ⟨2, 5, 0, ⟨#[]⟩, [], []⟩ none 0 none 0 w1 (by decide +kernel) (by decide) (HT.out.below HB1.out)
      rw [show txtV ⟨2, 5, 0, ⟨#[]⟩, [], []⟩ = ⟨#[53]⟩ from by
        show (⟨(Lib.itoa 5).toArray⟩ : ByteArray) = _
        apply ba_ext
        decide +kernel] at hT5
      have HT5 := Lib.hid hT5
      rw [HLN.out] at HC31 HC41 ⊢
      clear hr1 hC4 hb1 HTS hB HC3 le4 hT5
      go_wp2_with fail
      refine HT5.out.mono ?_
      rintro e w2 ⟨rfl, hb2⟩
      have HB2 := Lib.hid (HB1.out.trans (hb2.mono HB1.out.size))
      have HC32 := Lib.hid (Kd.C_below HC31.out hb2)
      have HC42 := Lib.hid (Kd.C_below HC41.out hb2)
      clear hb2 HB1 HC31 HC41 HT5
      have HBB := Lib.hid (Below.refl w2.heap.size w2)
      go_wp2
      go_loopw [8] (fun i wr => ∃ q : Nat, i = .int .i64 q ∧ q ≤ k ∧ Hid (Below w2.heap.size w2 wr)) (fun i _ => k - (intOf i).toNat)
      case atStart => exact ⟨0, rfl, Nat.zero_le _, HBB⟩
      case round =>
        clear HBB
        obtain ⟨q, rfl, hq, hBq⟩ := hrel
        by_cases cq : q < k
        · obtain ⟨a3, e3, p0⟩ := Kd.at_string (Kd.C_below HC32.out hBq.out) (q : Int) (by omega) (by omega)
          obtain ⟨a4, e4, p1⟩ := Kd.at_string (Kd.C_below HC42.out hBq.out) (q : Int) (by omega) (by omega)
          subst e3
          subst e4
          simp only [Int.toNat_natCast] at p0 p1
          generalize rdOf ByteArray.empty L (q : Int) = tx at *
          have e1 : (tx.toList != tx.toList) = false := by simp
          have e2 : (tx.toList == tx.toList) = true := by simp
          have i0 : (0 : Int) ≤ (q : Int) := by omega
          have i1 : (q : Int) < (k : Int) := by omega
          go_wp2
          go_quiet (fail)
          go_wp2
          go_roundw
          case rel => exact ⟨q + 1, by go_num, by omega, Lib.hid (pw_below_drewN hBq.out _)⟩
          case measure => simp [intOf]; omega
        · have hqk : q = k := by omega
          subst hqk
          have HFIN := Lib.hid (HB2.out.trans (hBq.out.mono HB2.out.size))
          go_wp2
          go_ret
          exact ⟨rfl, HFIN.out⟩
end Go.Proofs.YtgjcejgcljjdhaaDoor.P
