/- goDict, and all three together: a right value becomes an interface value that is this value. -/
import Derived.Test.YtffkinonnkbcpaaG2
set_option linter.unusedVariables false
set_option linter.unusedSimpArgs false
namespace Go.Proofs.Ytffkinonnkbcpaa.P
open Go.RowKit Go.Proofs.YtffkinonnkbcpaaW.PrintWords Go.Proofs.YtffkinonnkbcpaaW.PrintLast Go.Proofs.YtffkinonnkbcpaaW.PrintMore
attribute [local go_sem] run_store_float

/-- What the loop of goDict has laid into the map. -/
def GotD (n : Nat) (ks : List ByteArray) (l : List S31) (B k b : Nat) (w : World) : Prop :=
  ∃ vs, vs.length = k ∧ w.ownsMap Try.prog 9 rawR b k (.map (pairsOf (ks.take k) vs)) ∧ ∀ i, i < k → GoN n (fun q => B ≤ q ∧ q ≠ b) w (l.getD i z31) (vs.getD i .nilIface)
theorem GotD.start {n : Nat} {ks : List ByteArray} {l : List S31} {B : Nat} (w : World) : GotD n ks l B 0 w.heap.size (w.alloc (.map #[] 0)) :=
  ⟨[], rfl, by rw [List.take_zero]; exact World.ownsMap_made w _ _ _, fun i hi => absurd hi (by omega)⟩
theorem GotD.lt {n : Nat} {ks : List ByteArray} {l : List S31} {B k b : Nat} {w : World} (h : GotD n ks l B k b w) : b < w.heap.size := by
  obtain ⟨vs, _, ho, _⟩ := h
  exact ho.lt
theorem ownsMap_below {w w' : World} {b m : Nat} {D : DataW Value} (h : w.ownsMap Try.prog 9 rawR b m D) (hb : Below w.heap.size w w') : w'.ownsMap Try.prog 9 rawR b m D := by
  have hlt := h.lt
  obtain ⟨es, clock, h1, F, hs, hD⟩ := h
  exact ⟨es, clock, (hb.block b hlt).trans h1, F, hs, hD⟩
theorem GotD.next {n : Nat} {ks : List ByteArray} {l : List S31} {B k b : Nat} {wr w2 w3 : World} {v : Value} {key : ByteArray} (hB : B ≤ wr.heap.size) (hb : Below wr.heap.size wr w2) (hv : GoN n (fun q => wr.heap.size ≤ q) w2 (l.getD k z31) v) (hbl : b < wr.heap.size)
    (vs : List Value) (hvs : vs.length = k) (hel : ∀ i, i < k → GoN n (fun q => B ≤ q ∧ q ≠ b) wr (l.getD i z31) (vs.getD i .nilIface)) (hk : k < ks.length) (hkey : ks[k] = key) (hA : Ascend ks)
    (hown : w3.ownsMap Try.prog 9 rawR b (k + 1) ((DataW.map (pairsOf (ks.take k) vs)).put (.string key.data.toList) (.held v))) (hgr : w2.grownBy w3 (some b)) : GotD n ks l B (k + 1) b w3 := by
  refine ⟨vs ++ [v], by simp [hvs], ?_, fun i hi => ?_⟩
  · rw [put_last (by rw [List.length_take, hvs]; omega) (fun a ha => ?_)] at hown
    · rw [List.take_succ_eq_append_getElem hk, hkey]
      exact hown
    · obtain ⟨j, hj, rfl⟩ := List.getElem_of_mem ha
      rw [List.length_take] at hj
      rw [List.getElem_take, ← hkey]
      exact List.pairwise_iff_getElem.1 hA j k (by omega) hk (by omega)
  · by_cases hik : i < k
    · have e0 : (vs ++ [v]).getD i .nilIface = vs.getD i .nilIface := by simp [List.getD_eq_getElem?_getD, List.getElem?_append, show i < vs.length by omega]
      rw [e0]
      exact ((hel i hik).below hb).imp (Nat.le_refl _) (fun q hq _ => hq) (fun q hq hlt => hgr.block q hlt (by intro h; injection h with h; exact hq.2 h))
    · have hik : i = k := by omega
      subst hik
      have e1 : (vs ++ [v]).getD i .nilIface = v := by simp [List.getD_eq_getElem?_getD, List.getElem?_append, hvs]
      rw [e1]
      exact hv.imp (Nat.le_refl _) (fun q hq hlt => ⟨by omega, by omega⟩) (fun q hq hlt => hgr.block q hlt (by intro h; injection h with h; omega))
set_option maxHeartbeats 3200000 in
set_option maxRecDepth 100000 in
theorem goDict_step {n : Nat} (hO : GoOfOk n) : GoDictOk n := by
  intro f1 f2 f3 f4 f5 A4 c4 A5 c5 w hx h4 hc4 h5 hc5
  have hmm := @run_makeMap Try.prog
  have HO := Lib.hid hO
  obtain ⟨-, -, hl, -, hks, hch, h7, -⟩ := hx
  simp only at hl hks hch h7
  obtain ⟨hlen, hasc⟩ := h7 trivial
  have HF := Lib.hid hch
  have HK := Lib.hid hks
  have HA := Lib.hid hasc
  have H4 := Lib.hid h4
  have H5 := Lib.hid h5
  clear hO hch h4 h5 hks hasc h7
  obtain ⟨N, hNN⟩ : ∃ N, N = f5.length := ⟨_, rfl⟩
  have HN := Lib.hid hNN
  have HN4 := Lib.hid (hNN.trans hlen.symm)
  rw [hlen] at hc4 ⊢
  rw [← hNN] at hl hc4 hc5 ⊢
  clear hNN hlen
  obtain ⟨W1, hW1⟩ : ∃ W1, W1 = w.alloc (.cells #[.int .i64 7, .int .i64 f1, .float .f64 f2, .string f3, .slice A4 N c4, .slice A5 N c5] 31) := ⟨_, rfl⟩
  have hz1 : W1.heap.size = w.heap.size + 1 := by rw [hW1]; simp
  have hb1 : Below w.heap.size w W1 := by rw [hW1]; exact (Below.refl _ _).alloc (Nat.le_refl _) _
  have hbox : W1.heap[w.heap.size]? = some (.cells #[.int .i64 7, .int .i64 f1, .float .f64 f2, .string f3, .slice A4 N c4, .slice A5 N c5] 31 (0, 0)) := by rw [hW1]; exact heap_alloc_new w _
  have HG := Lib.hid (GotD.start (n := n) (ks := f4) (l := f5) (B := w.heap.size) W1)
  have HB := Lib.hid (hb1.alloc (by omega) (.map #[] 0))
  have HS := Lib.hid (show w.heap.size ≤ (W1.alloc (.map #[] 0)).heap.size by simp [hz1]; omega)
  have HX := Lib.hid (show (W1.alloc (.map #[] 0)).heap[w.heap.size]? = some (.cells #[.int .i64 7, .int .i64 f1, .float .f64 f2, .string f3, .slice A4 N c4, .slice A5 N c5] 31 (0, 0)) from (blk_alloc_old (by omega)).trans hbox)
  have HZ := Lib.hid hz1
  rw [hz1] at HG
  have HW := Lib.hid hW1
  clear hz1 hb1 hbox hW1
  go_enter Try.func26, Try.ntmps26
  go_wp2
  go_loopw [25] (fun i wr => ∃ k : Nat, i = .int .i64 k ∧ k ≤ N ∧ Hid (GotD n f4 f5 w.heap.size k (w.heap.size + 1) wr) ∧ Hid (Below w.heap.size w wr) ∧ Hid (w.heap.size + 1 < wr.heap.size) ∧ Hid (wr.heap[w.heap.size]? = some (.cells #[.int .i64 7, .int .i64 f1, .float .f64 f2, .string f3, .slice A4 N c4, .slice A5 N c5] 31 (0, 0)))) (fun i _ => N - (intOf i).toNat)
  case atStart =>
    have hW1 := HW.out
    subst hW1
    exact ⟨0, rfl, Nat.zero_le _, HG, HB, Lib.hid (by simp), HX⟩
  case round =>
    clear HG HB HS HX HZ HW
    obtain ⟨k, rfl, hk, hG, hB, hS, hX⟩ := hrel
    by_cases ck : k < N
    · have hSw := Nat.le_of_lt (Nat.lt_of_succ_lt hS.out)
      obtain ⟨ad, B4, d4, B5, d5, rfl, q0, q1, q2, q3, q4, q5, l4, g4, l5, g5⟩ := at_T31 (Kd.C_below H5.out hB.out) (k : Int) (by omega) (by rw [← HN.out]; omega)
      simp only [Int.toNat_natCast] at q0 q1 q2 q3 q4 q5
      obtain ⟨ak, rfl, t0⟩ := Kd.at_string (Kd.C_below H4.out hB.out) (k : Int) (by omega) (by rw [← HN4.out]; omega)
      simp only [Int.toNat_natCast] at t0
      have hkN : k < f4.length := by rw [← HN4.out]; exact ck
      have HK4 := Lib.hid (show ∃ h : k < f4.length, f4[k] = rdOf ByteArray.empty f4 (k : Int) from ⟨hkN, by simp [rdOf, List.getD_eq_getElem?_getD, hkN]⟩)
      have hks : (rdOf ByteArray.empty f4 (k : Int)).size ≤ 300 := by obtain ⟨h, e⟩ := HK4.out; rw [← e]; exact HK.out _ (List.getElem_mem h)
      have HKS := Lib.hid hks
      have hfk : fitsN n (rd_T31 f5 (k : Int)) := HF.out k (by rw [← HN.out]; exact ck)
      have HFK := Lib.hid hfk
      have G4 := Lib.hid g4
      have G5 := Lib.hid g5
      have hkd : rd_T31 f5 (k : Int) = f5.getD k z31 := by unfold rd_T31; rw [Int.toNat_natCast]
      have HKD := Lib.hid hkd
      clear hfk g4 g5 hkd hks hkN
      generalize rd_T31 f5 (k : Int) = x at *
      generalize rdOf ByteArray.empty f4 (k : Int) = key at *
      have b0 := (blk_cell hX.out 0).trans rfl
      have b4 := (blk_cell hX.out 4).trans rfl
      have b5 := (blk_cell hX.out 5).trans rfl
      go_wp2_with fail
      refine (HO.out x B4 d4 B5 d5 _ HFK.out G4.out l4 G5.out l5).mono ?_
      rintro e w2 ⟨v, rfl, hv, hb0⟩
      obtain ⟨vs, hvs, ho, hel⟩ := hG.out
      have hbl := hG.out.lt
      have hv0 : GoN n (fun q => wr.heap.size ≤ q) w2 (f5.getD k z31) v := by rw [← HKD.out]; exact hv
      have HB2 := Lib.hid (hB.out.trans (hb0.mono hSw))
      have HS2 := Lib.hid (Nat.lt_of_lt_of_le hS.out hb0.size)
      have HO2 := Lib.hid (ownsMap_below ho hb0)
      have HV := Lib.hid hv0
      have HB0 := Lib.hid hb0
      have HVS := Lib.hid hvs
      have HEL := Lib.hid hel
      have HBL := Lib.hid hbl
      have HX2 := Lib.hid (show w2.heap[w.heap.size]? = some (.cells #[.int .i64 7, .int .i64 f1, .float .f64 f2, .string f3, .slice (some ak) N c4, .slice (some ad) N c5] 31 (0, 0)) from (hb0.block _ (by have := hS.out; omega)).trans hX.out)
      have hsh := hv.shape
      have hkey := WideMaps.keyOf_string_mk (P := Try.prog) Try.underlying9 (s := key) (by have := HKS.out; unfold maxLen; omega)
      have a4 := (blk_cell HX2.out 4).trans rfl
      have H4n := Lib.hid (Kd.C_below H4.out HB2.out)
      clear hv hb0 ho hel hv0 hvs hbl q0 q1 q2 q3 q4 q5 HFK G4 G5 t0 b0 b4 b5 hG hB
      have HKL := Lib.hid (Maps.string_keyed (P := Try.prog) Try.underlying9)
      have fin : ∀ w3 : World, w3.ownsMap Try.prog 9 rawR (w.heap.size + 1) (k + 1) ((DataW.map (pairsOf (f4.take k) vs)).put (.string key.data.toList) (.held v)) → w2.grownBy w3 (some (w.heap.size + 1)) →
          Hid (GotD n f4 f5 w.heap.size (k + 1) (w.heap.size + 1) w3) ∧ Hid (Below w.heap.size w w3) ∧ Hid (w.heap.size + 1 < w3.heap.size) ∧ Hid (w3.heap[w.heap.size]? = some (.cells #[.int .i64 7, .int .i64 f1, .float .f64 f2, .string f3, .slice (some ak) N c4, .slice (some ad) N c5] 31 (0, 0))) := by
        intro w3 hown hgr
        obtain ⟨hk1, hk2⟩ := HK4.out
        refine ⟨Lib.hid (GotD.next hSw HB0.out HV.out HBL.out vs HVS.out HEL.out hk1 hk2 HA.out hown hgr), Lib.hid (Below.grown HB2.out hgr (by have := HS2.out; omega) (fun q hq => by injection hq with hq; omega)), Lib.hid (Nat.lt_of_lt_of_le HS2.out hgr.size), Lib.hid ((hgr.block _ (by have := HS2.out; omega) (by intro h; injection h with h; omega)).trans HX2.out)⟩
      have FIN := Lib.hid fin
      clear fin HB0 HV HEL HVS HKD
      rcases hsh with rfl | ⟨t, u, rfl⟩
      all_goals
        cases k with
        | zero =>
          go_wp2_with (at_mapUpdate; first | (refine wpList_mapUpdate_own _ rfl _ _ _ 58 rfl 9 20 HKL.out Try.underlying58 rawR (w.heap.size + 1) 0 _ rfl HO2.out (by decide) (.string key) .nilIface _ rfl rfl hkey (.held .nilIface) [] rfl ?_) | (refine wpList_mapUpdate_own _ rfl _ _ _ 58 rfl 9 20 HKL.out Try.underlying58 rawR (w.heap.size + 1) 0 _ rfl HO2.out (by decide) (.string key) (.iface t u) _ rfl rfl hkey (.held (.iface t u)) [] rfl ?_))
          intro w3 hown hgr
          obtain ⟨r1, r2, r3, r4⟩ := FIN.out w3 hown hgr
          clear hown hgr HO2
          go_wp2
          go_roundw
          case rel => exact ⟨1, by go_num, by omega, r1, r2, r3, r4⟩
          case measure => simp [intOf]; omega
        | succ j =>
          obtain ⟨ak', eak, s0⟩ := Kd.at_string H4n.out (j : Int) (by omega) (by rw [← HN4.out]; omega)
          cases eak
          simp only [Int.toNat_natCast] at s0
          have hlt : Op.bytesLess (rdOf ByteArray.empty f4 (j : Int)).toList key.toList = true := by
            obtain ⟨hk1, hk2⟩ := HK4.out
            have hj : rdOf ByteArray.empty f4 (j : Int) = f4[j] := by simp [rdOf, List.getD_eq_getElem?_getD, show j < f4.length by omega]
            rw [hj, ← hk2, ByteArray.toList_eq, ByteArray.toList_eq]
            exact List.pairwise_iff_getElem.1 HA.out j (j + 1) (by omega) hk1 (by omega)
          have hle : (Op.bytesLess key.toList (rdOf ByteArray.empty f4 (j : Int)).toList || key.toList == (rdOf ByteArray.empty f4 (j : Int)).toList) = false := by rw [bytesLe_not, hlt]; rfl
          have hle1 : Op.bytesLess key.toList (rdOf ByteArray.empty f4 (j : Int)).toList = false := less_asymm hlt
          have hle2 : (key.toList == (rdOf ByteArray.empty f4 (j : Int)).toList) = false := by simpa [hle1] using hle
          have hsub : ((j + 1 : Nat) : Int) - 1 = (j : Int) := by omega
          have hj0 : (0 : Int) ≤ (j : Int) := by omega
          have hjN : (j : Int) < (N : Int) := by omega
          clear hlt
          generalize rdOf ByteArray.empty f4 (j : Int) = prev at *
          go_wp2_with (at_mapUpdate; first | (refine wpList_mapUpdate_own _ rfl _ _ _ 58 rfl 9 20 HKL.out Try.underlying58 rawR (w.heap.size + 1) (j + 1) _ rfl HO2.out (by unfold maxLen; omega) (.string key) .nilIface _ rfl rfl hkey (.held .nilIface) [] rfl ?_) | (refine wpList_mapUpdate_own _ rfl _ _ _ 58 rfl 9 20 HKL.out Try.underlying58 rawR (w.heap.size + 1) (j + 1) _ rfl HO2.out (by unfold maxLen; omega) (.string key) (.iface t u) _ rfl rfl hkey (.held (.iface t u)) [] rfl ?_))
          intro w3 hown hgr
          obtain ⟨r1, r2, r3, r4⟩ := FIN.out w3 hown hgr
          clear hown hgr HO2 s0 hle hle1 hle2
          go_wp2
          go_roundw
          case rel => exact ⟨j + 1 + 1, by go_num, by omega, r1, r2, r3, r4⟩
          case measure => simp [intOf]; omega
    · have hkn : k = N := by omega
      subst hkn
      go_wp2
      go_ret2
      obtain ⟨vs, hvs, ho, hel⟩ := hG.out
      exact ⟨.map (some (w.heap.size + 1)), rfl, ⟨w.heap.size + 1, k, vs, rfl, by omega, by rw [hvs, HN.out], by rw [← HN4.out, HN.out], by omega, by rw [List.take_of_length_le (by rw [← HN4.out]; exact Nat.le_refl _)] at ho; exact ho, fun i hi => (hel i (by rw [HN.out]; exact hi)).ok (fun q hq _ => hq.1)⟩, hB.out⟩
/-- All three, at every depth. -/
theorem go_all : ∀ n, GoOfOk n
  | 0 => fun x _ _ _ _ _ hx _ _ _ _ => hx.elim
  | n + 1 => goOf_step (goList_step (go_all n)) (goDict_step (go_all n))
end Go.Proofs.Ytffkinonnkbcpaa.P
