/- strslice, join of simple values; the doors above: impl.Cat, impl.Join, impl.ToStrings, impl.ToString. -/
import Derived.Test.YtgjcejgcljjdhaaGreatDoorB3
set_option linter.unusedVariables false
set_option linter.unusedSimpArgs false
namespace Go.Proofs.YtgjcejgcljjdhaaGreatDoor.P
open Go.RowKit Go.Proofs.YtgjcejgcljjdhaaGreatDoorW.PrintWords Go.Proofs.YtgjcejgcljjdhaaGreatDoorW.PrintLast Go.Proofs.YtgjcejgcljjdhaaGreatDoorW.PrintMore

set_option maxHeartbeats 3200000 in
set_option maxRecDepth 100000 in
theorem sprigCat (l : List S36) (A : Option Addr) (c : Nat) (w : World) (hs : ∀ x ∈ l, simpV x = true) (hl : l.length ≤ 1000) (hc : kV.C w A l.length l) (hT : TabsW w) :
    Calls Tryz.prog 26 #[.slice A l.length c] w fun e w' => e = .returned (.string (joinB ((l.filter fullV).map txtV) ⟨#[32]⟩)) ∧ Below w.heap.size w w' := by
  have HC := Lib.hid (cat_call l A c w hs hl hc hT)
  clear hs hl hc hT
  go_enter Tryz.func26, Tryz.ntmps26
  go_wp2_with fail
  refine HC.out.mono ?_
  rintro e w1 ⟨rfl, hb1⟩
  have HB1 := Lib.hid hb1
  clear hb1 HC
  go_wp2
  go_ret
  exact ⟨rfl, HB1.out⟩
set_option maxHeartbeats 3200000 in
set_option maxRecDepth 100000 in
theorem implCat (l : List S36) (A : Option Addr) (c : Nat) (w : World) (hs : ∀ x ∈ l, simpV x = true) (hl : l.length ≤ 1000) (hc : k36.C w A l.length l) (hT : TabsW w) :
    Calls Tryz.prog 16 #[.slice A l.length c] w fun e w' => e = .returned (.string (joinB ((l.filter fullV).map txtV) ⟨#[32]⟩)) ∧ Below w.heap.size w w' := by
  have HG := Lib.hid (goList_simple l A c w hs hl hc)
  have HT := Lib.hid hT
  have HS := Lib.hid hs
  clear hs hc hT
  go_enter Tryz.func16, Tryz.ntmps16
  go_wp2_with fail
  refine HG.out.mono ?_
  rintro e w1 ⟨u, rfl, hr1, hb1⟩
  obtain ⟨A1, c1, rfl, hle1, hC1⟩ := Kd.R_reads hr1
  have HC := Lib.hid (sprigCat l A1 c1 w1 HS.out hl hC1 (HT.out.below hb1))
  have HB1 := Lib.hid hb1
  clear hr1 hC1 hb1 hle1 HG HT HS
  go_wp2_with fail
  refine HC.out.mono ?_
  rintro e w2 ⟨rfl, hb2⟩
  have HB2 := Lib.hid (HB1.out.trans (hb2.mono HB1.out.size))
  clear hb2 HC
  go_wp2
  go_ret
  exact ⟨rfl, HB2.out⟩
set_option maxHeartbeats 3200000 in
set_option maxRecDepth 100000 in
theorem strslice_call (l : List S36) (A : Option Addr) (c : Nat) (w : World) (hs : ∀ x ∈ l, simpV x = true) (hl : l.length ≤ 1000) (hc : kV.C w A l.length l) (hT : TabsW w) :
    Calls Tryz.prog 44 #[.iface 42 (.slice A l.length c)] w fun e w' => ∃ u, e = .returned u ∧ Kd.string.R 9 w' w.heap.size (fun _ => True) u ((l.filter fullV).map txtV) ∧ Below w.heap.size w w' := by
  have HF := Lib.hid hs
  have HC := Lib.hid hc
  have HT := Lib.hid hT
  have HMK := fun W => make0 (P := Tryz.prog) 27 9 (.string ⟨#[]⟩) Tryz.underlying27 info_str rfl l.length hl W
  have ta0 : ∀ (v : Value) (W : World), (Instr.typeAssert (.iface 42 v) 20 27 true).run Tryz.prog W = .ok (.tuple #[.slice none 0 0, .bool false]) W := fun v W => by kernel_rfl
  have ta1 : ∀ (v : Value) (W : World), (Instr.typeAssert (.iface 42 v) 20 42 true).run Tryz.prog W = .ok (.tuple #[v, .bool true]) W := fun v W => by kernel_rfl
  clear hs hc hT
  obtain ⟨N, hNN⟩ : ∃ N, N = l.length := ⟨_, rfl⟩
  have HN := Lib.hid hNN
  rw [← hNN] at hl HMK ⊢
  clear hNN
  have HG := Lib.hid (show Kd.string.R 9 (w.alloc (.cells (madeCells #[.string ⟨#[]⟩] N) 9)) w.heap.size (fun _ => True) (.slice (some ⟨w.heap.size, 0, none⟩) 0 N) [] from R_made0 rfl w _ N hl)
  have HB := Lib.hid ((Below.refl w.heap.size w).alloc (Nat.le_refl _) (.cells (madeCells #[.string ⟨#[]⟩] N) 9))
  have HS := Lib.hid (show w.heap.size ≤ (w.alloc (.cells (madeCells #[.string ⟨#[]⟩] N) 9)).heap.size by simp)
  go_enter Tryz.func44, Tryz.ntmps44
  go_wp2
  go_loopw [5, 7, 28] (fun v y i wr => ∃ (k : Nat) (v' y' : Value), v' = v ∧ y' = y ∧ i = .int .i64 k ∧ k ≤ N ∧ Hid (Kd.string.R 9 wr w.heap.size (fun _ => True) v' (((l.take k).filter fullV).map txtV)) ∧ Hid (Below w.heap.size w wr) ∧ Hid (w.heap.size ≤ wr.heap.size)) (fun _ _ i _ => N - (intOf i).toNat)
  case atStart => exact ⟨0, _, _, rfl, rfl, rfl, Nat.zero_le _, by rw [List.take_zero]; exact HG, HB, HS⟩
  case round =>
    clear HG HB HS HMK
    obtain ⟨k, v, y0, rfl, rfl, rfl, hk, hG, hB, hS⟩ := hrel
    by_cases ck : k < N
    · obtain ⟨ad, rfl, q0⟩ := at_V (Kd.C_below HC.out hB.out) (k : Int) (by omega) (by rw [← HN.out]; omega)
      simp only [Int.toNat_natCast] at q0
      have hkl : k < l.length := by rw [← HN.out]; exact ck
      have hkd : rd_T36 l (k : Int) = l.getD k z36 := by unfold rd_T36; rw [Int.toNat_natCast]
      have hsx : simpV (rd_T36 l (k : Int)) = true := by rw [hkd]; exact HF.out _ (getD_mem hkl)
      have HTK := Lib.hid (show (l.take (k + 1)).filter fullV = (l.take k).filter fullV ++ (if fullV (rd_T36 l (k : Int)) then [rd_T36 l (k : Int)] else []) by rw [hkd]; exact takeF hkl)
      obtain ⟨xs, hxs⟩ : ∃ xs, xs = ((l.take k).filter fullV).map txtV := ⟨_, rfl⟩
      have HXS := Lib.hid hxs
      have HLT := Lib.hid (show xs.length ≤ k by rw [hxs, List.length_map]; exact takeF_le (l := l) (k := k))
      rw [← hxs] at hG
      have HSX := Lib.hid hsx
      clear hkd hkl hsx hxs
      generalize rd_T36 l (k : Int) = x at *
      rcases encV_cases HSX.out with ⟨_, h, hf⟩ | ⟨hf, h⟩
      · rw [h] at q0
        rw [hf] at HTK
        have HG3 := Lib.hid (show Kd.string.R 9 wr w.heap.size (fun _ => True) v (((l.take (k + 1)).filter fullV).map txtV) by rw [HTK.out]; simpa [← HXS.out] using hG.out)
        clear h hf HTK hG HLT HXS
        go_wp2
        go_roundw
        case rel => exact ⟨k + 1, v, _, rfl, rfl, by go_num, by omega, HG3, hB, hS⟩
        case measure => simp [intOf]; omega
      · have HZ := Lib.hid (strval_call HSX.out hf wr (HT.out.below hB.out))
        obtain ⟨t, u, h⟩ : ∃ t u, encV x = .iface t u := by
          rcases h with ⟨b, h, _⟩ | ⟨n, _, _, h, _⟩ | ⟨n, _, _, h, _⟩ | h
          all_goals exact ⟨_, _, h⟩
        have HTK2 := Lib.hid (show ((l.take (k + 1)).filter fullV).map txtV = xs ++ [txtV x] by rw [HTK.out, hf, HXS.out]; simp)
        rw [h] at q0 HZ
        clear h hf HTK HXS
        generalize txtV x = tx at *
        go_wp2_with fail
        refine HZ.out.mono ?_
        rintro e w2 ⟨rfl, hb⟩
        have HG2 := Lib.hid (Kd.R_below hG.out hb)
        have HB2 := Lib.hid (hB.out.trans (hb.mono hS.out))
        have HS2 := Lib.hid (Nat.le_trans hS.out hb.size)
        have HM := Lib.hid (show Kd.string.M w2 w.heap.size (fun _ => False) tx [.string tx] from rfl)
        clear hb hG hB hS HZ q0
        go_wp2_with (at_builtin; refine Kd.R_append Kd.string (w0 := w) w.heap.size rfl _ _ 27 9 (.string ⟨#[]⟩) 16 rfl Tryz.underlying27 info_str rfl (Nat.succ_pos 0) (by decide) v xs tx [.string tx] (fun _ => True) (fun _ => False) rfl rfl HM.out (fun _ h => h.elim) (fun _ _ => trivial) HG2.out HB2.out HS2.out (by have := HLT.out; omega) ?_)
        intro v1 w3 h1 hb3 hgr hat
        have HG3 := Lib.hid (show Kd.string.R 9 w3 w.heap.size (fun _ => True) v1 (((l.take (k + 1)).filter fullV).map txtV) by rw [HTK2.out]; exact h1)
        have HB3 := Lib.hid hb3
        have HS3 := Lib.hid (Nat.le_trans HS2.out hgr.size)
        clear h1 hb3 hgr hat HG2 HB2 HS2 HTK2 HLT HM
        go_wp2
        go_roundw
        case rel => exact ⟨k + 1, v1, _, rfl, rfl, by go_num, by omega, HG3, HB3, HS3⟩
        case measure => simp [intOf]; omega
    · have hkn : k = N := by omega
      subst hkn
      have HG3 := Lib.hid (show Kd.string.R 9 wr w.heap.size (fun _ => True) v ((l.filter fullV).map txtV) by have := hG.out; rwa [HN.out, List.take_length] at this)
      clear hG
      go_wp2
      go_ret
      exact ⟨v, rfl, HG3.out, hB.out⟩
set_option maxHeartbeats 3200000 in
set_option maxRecDepth 100000 in
theorem sprigjoin (sep : ByteArray) (hsep : sep.size ≤ 2147483647) (l : List S36) (A : Option Addr) (c : Nat) (w : World) (hs : ∀ x ∈ l, simpV x = true) (hl : l.length ≤ 1000) (hc : kV.C w A l.length l) (hT : TabsW w) :
    Calls Tryz.prog 33 #[.string sep, .iface 42 (.slice A l.length c)] w fun e w' => e = .returned (.string (joinB ((l.filter fullV).map txtV) sep)) ∧ Below w.heap.size w w' := by
  have HC := Lib.hid (strslice_call l A c w hs hl hc hT)
  have HML := Lib.hid (show ((l.filter fullV).map txtV).length ≤ 1000 by rw [List.length_map]; exact Nat.le_trans (List.length_filter_le _ _) hl)
  have HMS := Lib.hid (txts_size (fun x hx => (filt_simp hs x hx).1))
  clear hs hl hc hT
  obtain ⟨xs, hxs⟩ : ∃ xs, xs = (l.filter fullV).map txtV := ⟨_, rfl⟩
  rw [← hxs] at HC HML HMS ⊢
  clear hxs
  go_enter Tryz.func33, Tryz.ntmps33
  go_wp2_with fail
  refine HC.out.mono ?_
  rintro e w1 ⟨u, rfl, hr1, hb1⟩
  have HJ := Lib.hid (join_call hr1 sep HML.out HMS.out hsep)
  have HB1 := Lib.hid hb1
  clear hr1 hb1 HC
  go_wp2_with fail
  refine HJ.out.mono ?_
  rintro e w2 ⟨rfl, hb2⟩
  have HB2 := Lib.hid (HB1.out.trans (hb2.mono HB1.out.size))
  clear hb2 HJ
  go_wp2
  go_ret
  exact ⟨rfl, HB2.out⟩
set_option maxHeartbeats 3200000 in
set_option maxRecDepth 100000 in
theorem sprigJoin (sep : ByteArray) (hsep : sep.size ≤ 2147483647) (l : List S36) (A : Option Addr) (c : Nat) (w : World) (hs : ∀ x ∈ l, simpV x = true) (hl : l.length ≤ 1000) (hc : kV.C w A l.length l) (hT : TabsW w) :
    Calls Tryz.prog 23 #[.string sep, .iface 42 (.slice A l.length c)] w fun e w' => e = .returned (.string (joinB ((l.filter fullV).map txtV) sep)) ∧ Below w.heap.size w w' := by
  have HC := Lib.hid (sprigjoin sep hsep l A c w hs hl hc hT)
  clear hs hl hc hT
  go_enter Tryz.func23, Tryz.ntmps23
  go_wp2_with fail
  refine HC.out.mono ?_
  rintro e w1 ⟨rfl, hb1⟩
  have HB1 := Lib.hid hb1
  clear hb1 HC
  go_wp2
  go_ret
  exact ⟨rfl, HB1.out⟩
set_option maxHeartbeats 3200000 in
set_option maxRecDepth 100000 in
theorem implJoin (sep : ByteArray) (hsep : sep.size ≤ 2147483647) (l : List S36) (A : Option Addr) (c : Nat) (w : World) (hs : ∀ x ∈ l, simpV x = true) (hl : l.length ≤ 1000) (hc : k36.C w A l.length l) (hT : TabsW w) :
    Calls Tryz.prog 9 #[.string sep, .slice A l.length c] w fun e w' => e = .returned (.string (joinB ((l.filter fullV).map txtV) sep)) ∧ Below w.heap.size w w' := by
  have HG := Lib.hid (goList_simple l A c w hs hl hc)
  have HT := Lib.hid hT
  have HS := Lib.hid hs
  clear hs hc hT
  go_enter Tryz.func9, Tryz.ntmps9
  go_wp2_with fail
  refine HG.out.mono ?_
  rintro e w1 ⟨u, rfl, hr1, hb1⟩
  obtain ⟨A1, c1, rfl, hle1, hC1⟩ := Kd.R_reads hr1
  have HC := Lib.hid (sprigJoin sep hsep l A1 c1 w1 HS.out hl hC1 (HT.out.below hb1))
  have HB1 := Lib.hid hb1
  clear hr1 hC1 hb1 hle1 HG HT HS
  go_wp2_with fail
  refine HC.out.mono ?_
  rintro e w2 ⟨rfl, hb2⟩
  have HB2 := Lib.hid (HB1.out.trans (hb2.mono HB1.out.size))
  clear hb2 HC
  go_wp2
  go_ret
  exact ⟨rfl, HB2.out⟩
end Go.Proofs.YtgjcejgcljjdhaaGreatDoor.P
