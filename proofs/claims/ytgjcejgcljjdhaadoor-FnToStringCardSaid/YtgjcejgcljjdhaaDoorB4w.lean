/- strslice, join of simple values; the doors above: impl.Cat, impl.Join, impl.ToStrings, impl.ToString. -/
import Derived.Test.YtgjcejgcljjdhaaDoorB2w
set_option linter.unusedVariables false
set_option linter.unusedSimpArgs false
namespace Go.Proofs.YtgjcejgcljjdhaaDoor.P
open Go.RowKit Go.Proofs.YtgjcejgcljjdhaaDoorW.PrintWords Go.Proofs.YtgjcejgcljjdhaaDoorW.PrintLast Go.Proofs.YtgjcejgcljjdhaaDoorW.PrintMore

set_option maxHeartbeats 3200000 in
set_option maxRecDepth 100000 in
theorem strslice_call (l : List S28) (A : Option Addr) (c : Nat) (w : World) (hs : ∀ x ∈ l, simpV x = true) (hl : l.length ≤ 1000) (hc : kV.C w A l.length l) (hT : TabsW w) :
    Calls Tryd.prog 35 #[.iface 45 (.slice A l.length c)] w fun e w' => ∃ u, e = .returned u ∧ Kd.string.R 9 w' w.heap.size (fun _ => True) u ((l.filter fullV).map txtV) ∧ Below w.heap.size w w' := by
  have HF := Lib.hid hs
  have HC := Lib.hid hc
  have HT := Lib.hid hT
  have HMK := fun W => make0 (P := Tryd.prog) 23 9 (.string ⟨#[]⟩) Tryd.underlying23 info_str rfl l.length hl W
  have ta0 : ∀ (v : Value) (W : World), (Instr.typeAssert (.iface 45 v) 20 23 true).run Tryd.prog W = .ok (.tuple #[.slice none 0 0, .bool false]) W := fun v W => by kernel_rfl
  have ta1 : ∀ (v : Value) (W : World), (Instr.typeAssert (.iface 45 v) 20 45 true).run Tryd.prog W = .ok (.tuple #[v, .bool true]) W := fun v W => by kernel_rfl
  clear hs hc hT
  obtain ⟨N, hNN⟩ : ∃ N, N = l.length := ⟨_, rfl⟩
  have HN := Lib.hid hNN
  rw [← hNN] at hl HMK ⊢
  clear hNN
  have HG := Lib.hid (show Kd.string.R 9 (w.alloc (.cells (madeCells #[.string ⟨#[]⟩] N) 9)) w.heap.size (fun _ => True) (.slice (some ⟨w.heap.size, 0, none⟩) 0 N) [] from R_made0 rfl w _ N hl)
  have HB := Lib.hid ((Below.refl w.heap.size w).alloc (Nat.le_refl _) (.cells (madeCells #[.string ⟨#[]⟩] N) 9))
  have HS := Lib.hid (show w.heap.size ≤ (w.alloc (.cells (madeCells #[.string ⟨#[]⟩] N) 9)).heap.size by simp)
  go_enter Tryd.func35, Tryd.ntmps35
  go_wp2
  go_loopw [5, 7, 28] (fun v y i wr => ∃ (k : Nat) (v' y' : Value), v' = v ∧ y' = y ∧ i = .int .i64 k ∧ k ≤ N ∧ Hid (Kd.string.R 9 wr w.heap.size (fun _ => True) v' (((l.take k).filter fullV).map txtV)) ∧ Hid (Below w.heap.size w wr) ∧ Hid (w.heap.size ≤ wr.heap.size)) (fun _ _ i _ => N - (intOf i).toNat)
  case atStart => exact ⟨0, _, _, rfl, rfl, rfl, Nat.zero_le _, by rw [List.take_zero]; exact HG, HB, HS⟩
  case round =>
    clear HG HB HS HMK
    obtain ⟨k, v, y0, rfl, rfl, rfl, hk, hG, hB, hS⟩ := hrel
    by_cases ck : k < N
    · obtain ⟨ad, rfl, q0⟩ := at_V (Kd.C_below HC.out hB.out) (k : Int) (by omega) (by rw [← HN.out]; omega)
      simp only [Int.toNat_natCast] at q0
      have hkl : k < l.length := by rw [← HN.out]; exact ck
      have hkd : rd_T28 l (k : Int) = l.getD k z28 := by unfold rd_T28; rw [Int.toNat_natCast]
      have hsx : simpV (rd_T28 l (k : Int)) = true := by rw [hkd]; exact HF.out _ (getD_mem hkl)
      have HTK := Lib.hid (show (l.take (k + 1)).filter fullV = (l.take k).filter fullV ++ (if fullV (rd_T28 l (k : Int)) then [rd_T28 l (k : Int)] else []) by rw [hkd]; exact takeF hkl)
      obtain ⟨xs, hxs⟩ : ∃ xs, xs = ((l.take k).filter fullV).map txtV := ⟨_, rfl⟩
      have HXS := Lib.hid hxs
      have HLT := Lib.hid (show xs.length ≤ k by rw [hxs, List.length_map]; exact takeF_le (l := l) (k := k))
      rw [← hxs] at hG
      have HSX := Lib.hid hsx
      clear hkd hkl hsx hxs
      generalize rd_T28 l (k : Int) = x at *
      rcases encV_cases HSX.out with ⟨_, h, hf⟩ | ⟨hf, h⟩
      · rw [h] at q0
        rw [hf] at HTK
        have HG3 := Lib.hid (show Kd.string.R 9 wr w.heap.size (fun _ => True) v (((l.take (k + 1)).filter fullV).map txtV) by rw [HTK.out]; simpa [← HXS.out] using hG.out)
        clear h hf HTK hG HLT HXS
        go_wp2
        go_roundw
        case rel => exact ⟨k + 1, v, _, rfl, rfl, by go_num, by omega, HG3, hB, hS⟩
        case measure => simp [intOf]; omega
      · have HZ := Lib.hid (strval_call HSX.out hf wr (HT.out.below hB.out))
        obtain ⟨t, u, h⟩ : ∃ t u, encV x = .iface t u := by
          rcases h with ⟨b, h, _⟩ | ⟨n, _, _, h, _⟩ | ⟨n, _, _, h, _⟩ | h
          all_goals exact ⟨_, _, h⟩
        have HTK2 := Lib.hid (show ((l.take (k + 1)).filter fullV).map txtV = xs ++ [txtV x] by rw [HTK.out, hf, HXS.out]; simp)
        rw [h] at q0 HZ
        clear h hf HTK HXS
        generalize txtV x = tx at *
        go_wp2_with fail
        refine HZ.out.mono ?_
        rintro e w2 ⟨rfl, hb⟩
        have HG2 := Lib.hid (Kd.R_below hG.out hb)
        have HB2 := Lib.hid (hB.out.trans (hb.mono hS.out))
        have HS2 := Lib.hid (Nat.le_trans hS.out hb.size)
        have HM := Lib.hid (show Kd.string.M w2 w.heap.size (fun _ => False) tx [.string tx] from rfl)
        clear hb hG hB hS HZ q0
        go_wp2_with (at_builtin; refine Kd.R_append Kd.string (w0 := w) w.heap.size rfl _ _ 23 9 (.string ⟨#[]⟩) 16 rfl Tryd.underlying23 info_str rfl (Nat.succ_pos 0) (by decide) v xs tx [.string tx] (fun _ => True) (fun _ => False) rfl rfl HM.out (fun _ h => h.elim) (fun _ _ => trivial) HG2.out HB2.out HS2.out (by have := HLT.out; omega) ?_)
        intro v1 w3 h1 hb3 hgr hat
        have HG3 := Lib.hid (show Kd.string.R 9 w3 w.heap.size (fun _ => True) v1 (((l.take (k + 1)).filter fullV).map txtV) by rw [HTK2.out]; exact h1)
        have HB3 := Lib.hid hb3
        have HS3 := Lib.hid (Nat.le_trans HS2.out hgr.size)
        clear h1 hb3 hgr hat HG2 HB2 HS2 HTK2 HLT HM
        go_wp2
        go_roundw
        case rel => exact ⟨k + 1, v1, _, rfl, rfl, by go_num, by omega, HG3, HB3, HS3⟩
        case measure => simp [intOf]; omega
    · have hkn : k = N := by omega
      subst hkn
      have HG3 := Lib.hid (show Kd.string.R 9 wr w.heap.size (fun _ => True) v ((l.filter fullV).map txtV) by have := hG.out; rwa [HN.out, List.take_length] at this)
      clear hG
      go_wp2
      go_ret
      exact ⟨v, rfl, HG3.out, hB.out⟩
set_option maxHeartbeats 3200000 in
set_option maxRecDepth 100000 in
theorem sprigToStrings (l : List S28) (A : Option Addr) (c : Nat) (w : World) (hs : ∀ x ∈ l, simpV x = true) (hl : l.length ≤ 1000) (hc : kV.C w A l.length l) (hT : TabsW w) :
    Calls Tryd.prog 22 #[.iface 45 (.slice A l.length c)] w fun e w' => ∃ u, e = .returned u ∧ Kd.string.R 9 w' w.heap.size (fun _ => True) u ((l.filter fullV).map txtV) ∧ Below w.heap.size w w' := by
  have HC := Lib.hid (strslice_call l A c w hs hl hc hT)
  clear hs hl hc hT
  go_enter Tryd.func22, Tryd.ntmps22
  go_wp2_with fail
  refine HC.out.mono ?_
  rintro e w1 ⟨u, rfl, hr1, hb1⟩
  have HB1 := Lib.hid hb1
  have HR1 := Lib.hid hr1
  clear hb1 hr1 HC
  go_wp2
  go_ret
  exact ⟨u, rfl, HR1.out, HB1.out⟩
set_option maxHeartbeats 3200000 in
set_option maxRecDepth 100000 in
theorem implToStrings (l : List S28) (A : Option Addr) (c : Nat) (w : World) (hs : ∀ x ∈ l, simpV x = true) (hl : l.length ≤ 1000) (hc : k28.C w A l.length l) (hT : TabsW w) :
    Calls Tryd.prog 8 #[.slice A l.length c] w fun e w' => ∃ u, e = .returned u ∧ Kd.string.R 9 w' w.heap.size (fun _ => True) u ((l.filter fullV).map txtV) ∧ Below w.heap.size w w' := by
  have HG := Lib.hid (goList_simple l A c w hs hl hc)
  have HT := Lib.hid hT
  have HS := Lib.hid hs
  clear hs hc hT
  go_enter Tryd.func8, Tryd.ntmps8
  go_wp2_with fail
  refine HG.out.mono ?_
  rintro e w1 ⟨u, rfl, hr1, hb1⟩
  obtain ⟨A1, c1, rfl, hle1, hC1⟩ := Kd.R_reads hr1
  have HC := Lib.hid (sprigToStrings l A1 c1 w1 HS.out hl hC1 (HT.out.below hb1))
  have HB1 := Lib.hid hb1
  clear hr1 hC1 hb1 hle1 HG HT HS
  go_wp2_with fail
  refine HC.out.mono ?_
  rintro e w2 ⟨u2, rfl, hr2, hb2⟩
  have HB2 := Lib.hid (HB1.out.trans (hb2.mono HB1.out.size))
  have HR2 := Lib.hid (Kd.R_lower hr2 HB1.out.size)
  clear hb2 HC hr2
  go_wp2
  go_ret
  exact ⟨u2, rfl, HR2.out, HB2.out⟩
set_option maxHeartbeats 3200000 in
set_option maxRecDepth 100000 in
theorem sprigToString {x : S28} (hs : simpV x = true) (hf : fullV x = true) (w : World) (hT : TabsW w) : Calls Tryd.prog 20 #[encV x] w fun e w' => e = .returned (.string (txtV x)) ∧ Below w.heap.size w w' := by
  have HC := Lib.hid (strval_call hs hf w hT)
  clear hs hf hT
  generalize encV x = y at *
  go_enter Tryd.func20, Tryd.ntmps20
  go_wp2_with fail
  refine HC.out.mono ?_
  rintro e w1 ⟨rfl, hb1⟩
  have HB1 := Lib.hid hb1
  clear hb1 HC
  go_wp2
  go_ret
  exact ⟨rfl, HB1.out⟩
set_option maxHeartbeats 3200000 in
set_option maxRecDepth 100000 in
theorem implToString (x : S28) (A4 : Option Addr) (c4 : Nat) (A5 : Option Addr) (c5 : Nat) (w : World) (hs : simpV x = true) (hf : fullV x = true) (hT : TabsW w) :
    Calls Tryd.prog 7 #[.agg #[.int .i64 x.f0, .int .i64 x.f1, .float .f64 x.f2, .string x.f3, .slice A4 x.f4.length c4, .slice A5 x.f5.length c5]] w fun e w' => e = .returned (.string (txtV x)) ∧ Below w.heap.size w w' := by
  have HG := Lib.hid (fun (W : World) => goOf_simple x A4 c4 A5 c5 W hs)
  have HC := Lib.hid (fun (W : World) (hb : Below w.heap.size w W) => sprigToString hs hf W (hT.below hb))
  have HB := Lib.hid (fun o => (Below.refl w.heap.size w).alloc (Nat.le_refl _) o)
  clear hs hf hT
  generalize encV x = y at *
  generalize txtV x = tx at *
  go_enter Tryd.func7, Tryd.ntmps7
  go_wp2_with fail
  refine (HG.out _).mono ?_
  rintro e w1 ⟨rfl, hb1⟩
  have HB1 := Lib.hid ((HB.out _).trans (hb1.mono (by simp)))
  clear hb1 HG
  go_wp2_with fail
  refine (HC.out w1 HB1.out).mono ?_
  rintro e w2 ⟨rfl, hb2⟩
  have HB2 := Lib.hid (HB1.out.trans (hb2.mono HB1.out.size))
  clear hb2 HC
  go_wp2
  go_ret
  exact ⟨rfl, HB2.out⟩
end Go.Proofs.YtgjcejgcljjdhaaDoor.P
