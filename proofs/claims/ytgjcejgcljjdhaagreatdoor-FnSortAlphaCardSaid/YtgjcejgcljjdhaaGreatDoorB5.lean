/- spec.whole, spec.Shown, spec.ShownAll, laws.values9, spec.Simple: what the reference says of simple values as texts. -/
import Derived.Test.YtgjcejgcljjdhaaGreatDoorB2
import Derived.Test.YtgjcejgcljjdhaaGreatDoorPx2
set_option linter.unusedVariables false
set_option linter.unusedSimpArgs false
namespace Go.Proofs.YtgjcejgcljjdhaaGreatDoor.P
open Go.RowKit Go.Proofs.YtgjcejgcljjdhaaGreatDoorW.PrintWords Go.Proofs.YtgjcejgcljjdhaaGreatDoorW.PrintLast Go.Proofs.YtgjcejgcljjdhaaGreatDoorW.PrintMore
attribute [local go_sem] max2_int min2_int max_two min_two max_three min_three max_four min_four run_store_float

/-! ### A whole number as it is written -/
theorem dig_one (n : Int) : (strOfNums [(wrap64 (48 + (mx (Int.tmod n 10) (wrap64 (-(Int.tmod n 10)))))) % 256]) = ⟨#[UInt8.ofNat (48 + n.natAbs % 10)]⟩ := by
  have h1 : (Int.tmod n 10).natAbs = n.natAbs % 10 := by rw [Int.natAbs_tmod]; rfl
  have h2 : n.natAbs % 10 < 10 := Nat.mod_lt _ (by decide)
  have h3 : wrap64 (-(Int.tmod n 10)) = -(Int.tmod n 10) := by unfold wrap64; omega
  have h4 : mx (Int.tmod n 10) (-(Int.tmod n 10)) = ((n.natAbs % 10 : Nat) : Int) := by
    unfold mx
    split <;> omega
  have h5 : (wrap64 (48 + ((n.natAbs % 10 : Nat) : Int))) % 256 = ((48 + n.natAbs % 10 : Nat) : Int) := by unfold wrap64; omega
  rw [h3, h4, h5]
  have e : ∀ a : Nat, strOfNums [(a : Int)] = ⟨#[UInt8.ofNat a]⟩ := fun a => rfl
  exact e _
theorem dig_small (n : Int) (h : n.natAbs < 10) : (strOfNums [(wrap64 (48 + (mx n (wrap64 (-n))))) % 256]) = ⟨(Lib.decDigits n.natAbs).toArray⟩ := by
  have h3 : wrap64 (-n) = -n := by unfold wrap64; omega
  have h4 : mx n (-n) = (n.natAbs : Int) := by
    unfold mx
    split <;> omega
  have h5 : (wrap64 (48 + (n.natAbs : Int))) % 256 = ((48 + n.natAbs : Nat) : Int) := by unfold wrap64; omega
  rw [h3, h4, h5, Lib.decDigits, dif_pos h]
  have e : ∀ a : Nat, strOfNums [(a : Int)] = ⟨#[UInt8.ofNat a]⟩ := fun a => rfl
  exact e _
theorem dd_small (n : Int) (h : n.natAbs < 10) : Lib.decDigits n.natAbs = [UInt8.ofNat (48 + n.natAbs)] := by rw [Lib.decDigits, dif_pos h]
theorem dd_big (n : Int) (h : ¬ n.natAbs < 10) (acc : ByteArray) : (⟨(Lib.decDigits n.natAbs).toArray⟩ : ByteArray) ++ acc = (⟨(Lib.decDigits (Int.tdiv n 10).natAbs).toArray⟩ : ByteArray) ++ ((⟨#[UInt8.ofNat (48 + n.natAbs % 10)]⟩ : ByteArray) ++ acc) := by
  have hd : (Int.tdiv n 10).natAbs = n.natAbs / 10 := by rw [Int.natAbs_tdiv]; rfl
  rw [hd, Lib.decDigits.eq_def n.natAbs, dif_neg h]
  apply ba_ext
  simp
theorem size_le_of {a b c : ByteArray} (h : a ++ b = c) {n : Nat} (hc : c.size ≤ n) : b.size ≤ n := by
  have := congrArg ByteArray.size h
  rw [ByteArray.size_append] at this
  omega
theorem dd_size (n : Int) (h0 : -9223372036854775808 ≤ n) (h1 : n ≤ 9223372036854775807) : (⟨(Lib.decDigits n.natAbs).toArray⟩ : ByteArray).size ≤ 30 := by
  have h := Lib.itoa_length_le n h0 h1
  show (Lib.decDigits n.natAbs).toArray.size ≤ 30
  rw [List.size_toArray]
  unfold Lib.itoa at h
  by_cases hn : n < 0
  · rw [if_pos hn] at h
    simp at h
    omega
  · rw [if_neg hn, show n.toNat = n.natAbs by omega] at h
    omega
theorem itoa_sign (n : Int) : (⟨(Lib.itoa n).toArray⟩ : ByteArray) = if decide (n < 0) = true then (⟨#[45]⟩ : ByteArray) ++ ⟨(Lib.decDigits n.natAbs).toArray⟩ else ⟨(Lib.decDigits n.natAbs).toArray⟩ := by
  apply ba_ext
  unfold Lib.itoa
  by_cases hn : n < 0
  · simp [hn]
  · simp [hn, show n.toNat = n.natAbs by omega]
set_option maxHeartbeats 3200000 in
set_option maxRecDepth 100000 in
theorem whole_call (a0 : Int) (h0 : -9223372036854775808 ≤ a0) (h1 : a0 ≤ 9223372036854775807) (w : World) :
    Calls Tryz.prog 34 #[.int .i64 a0] w fun e w' => e = .returned (.string ⟨(Lib.itoa a0).toArray⟩) ∧ Below w.heap.size w w' := by
  obtain ⟨D, hD⟩ : ∃ D, D = (⟨(Lib.decDigits a0.natAbs).toArray⟩ : ByteArray) := ⟨_, rfl⟩
  have HD := Lib.hid hD
  have HDS := Lib.hid (show D.size ≤ 30 by rw [hD]; exact dd_size a0 h0 h1)
  have HIT := Lib.hid (itoa_sign a0)
  rw [← hD] at HIT
  obtain ⟨T, hT⟩ : ∃ T, T = (⟨(Lib.itoa a0).toArray⟩ : ByteArray) := ⟨_, rfl⟩
  rw [← hT] at HIT ⊢
  obtain ⟨sg, hsg⟩ : ∃ b, decide (a0 < 0) = b := ⟨_, rfl⟩
  rw [hsg] at HIT
  have HB := Lib.hid (Below.refl w.heap.size w)
  have HA := Lib.hid (show (⟨(Lib.decDigits a0.natAbs).toArray⟩ : ByteArray) ++ (⟨#[]⟩ : ByteArray) = D by rw [hD]; apply ba_ext; simp)
  clear hD hT
  go_enter Tryz.func34, Tryz.ntmps34
  go_wp2
  go_loopw [0, 3, 5] (fun v0 v3 v5 wr => ∃ (n : Int) (acc : ByteArray) (y : Value), v0 = .int .i64 n ∧ v3 = .string acc ∧ y = v5 ∧ -9223372036854775808 ≤ n ∧ n ≤ 9223372036854775807 ∧ Hid ((⟨(Lib.decDigits n.natAbs).toArray⟩ : ByteArray) ++ acc = D) ∧ Hid (acc.size ≤ 30) ∧ Hid (Below w.heap.size w wr)) (fun v0 _ _ _ => (intOf v0).natAbs)
  case atStart => exact ⟨a0, ⟨#[]⟩, _, rfl, rfl, rfl, h0, h1, HA, Lib.hid (by decide), HB⟩
  case round =>
    clear HB HA h0 h1
    obtain ⟨n, acc, y, rfl, rfl, rfl, hn0, hn1, hA, hS, hB⟩ := hrel
    by_cases c2 : 9 < n
    · have c2b0 : decide (9 < n) = true := decide_eq_true c2
      have hstep := Lib.hid ((dd_big n (by omega) acc).symm.trans hA.out)
      have hw : wrap64 (Int.tdiv n 10) = Int.tdiv n 10 := by
        have : (Int.tdiv n 10).natAbs = n.natAbs / 10 := by rw [Int.natAbs_tdiv]; rfl
        unfold wrap64
        omega
      have HW := Lib.hid hw
      have HNA := Lib.hid (show (Int.tdiv n 10).natAbs = n.natAbs / 10 by rw [Int.natAbs_tdiv]; rfl)
      have HR2 := Lib.hid (show -9223372036854775808 ≤ Int.tdiv n 10 ∧ Int.tdiv n 10 ≤ 9223372036854775807 by have := HNA.out; omega)
      have HSM := Lib.hid (show ¬ n.natAbs < 10 by omega)
      have hd1 := dig_one n
      obtain ⟨ji, hji⟩ : ∃ j, mx (Int.tmod n 10) (wrap64 (-(Int.tmod n 10))) = j := ⟨_, rfl⟩
      have hji_ : (if (Int.tmod n 10) < (wrap64 (-(Int.tmod n 10))) then (wrap64 (-(Int.tmod n 10))) else (Int.tmod n 10)) = ji := hji
      rw [hji] at hd1
      have HD1 := Lib.hid hd1
      have hz1 : (strOfNums [(wrap64 (48 + ji)) % 256]).size + acc.size ≤ 9223372036854775807 := by
        rw [hd1]
        have h9 := hS.out
        show 1 + acc.size ≤ _
        omega
      have HN01 := Lib.hid (And.intro hn0 hn1)
      clear hji hd1 hw hA hS hn0 hn1 c2 
      go_wp2_with (first | ((with_reducible refine gate_dst (N := 22) rfl ?_); refine Kd.R_lit (Kd.int .u8) _ 5 ?hg (N := 22) ?hd (xs := ([(wrap64 (48 + (ji))) % 256] : List Int)) (inner := [.int .u8 ((wrap64 (48 + (ji))) % 256)]) (ok := fun _ => True) (okp := fun _ => True) ?hr ?hp (fun _ hk => hk) trivial (Below.refl _ _) (Nat.le_refl _) (by simp) ?_; (case hd => rfl); (case hg => rfl); (case hr => first | (go_simp; done) | (go_simp; rfl)); (case hp => exact (Reps.one (show Kd.M (Kd.int .u8) _ _ _ ((wrap64 (48 + (ji))) % 256) [.int .u8 ((wrap64 (48 + (ji))) % 256)] from rfl) (Reps.none _ _))); intro v115 w5 ho6 hb hg_ hnew_; clear hg_ hnew_; have hcv7 := own_string (P := Tryz.prog) Tryz.underlying63 Tryz.underlying5 Tryz.underlying9 (Kd.own_of_R ho6); have HBN := Lib.hid (hB.out.trans (hb.mono hB.out.size)); clear hb ho6))
      go_roundw
      case rel => exact ⟨Int.tdiv n 10, _, _, by rw [HW.out], rfl, rfl, HR2.out.1, HR2.out.2, Lib.hid (by rw [HD1.out]; exact hstep.out), Lib.hid (size_le_of (by rw [HD1.out]; exact hstep.out) HDS.out), HBN⟩
      case measure =>
        try rw [HW.out]
        have h9 := HNA.out
        have h8 := HSM.out
        show (Int.tdiv n 10).natAbs < n.natAbs
        omega
    · have c2b0 : decide (9 < n) = false := decide_eq_false c2
      by_cases c8 : n < -9
      · have c8b0 : decide (n < (-9)) = true := decide_eq_true c8
        have hstep := Lib.hid ((dd_big n (by omega) acc).symm.trans hA.out)
        have hw : wrap64 (Int.tdiv n 10) = Int.tdiv n 10 := by
          have : (Int.tdiv n 10).natAbs = n.natAbs / 10 := by rw [Int.natAbs_tdiv]; rfl
          unfold wrap64
          omega
        have HW := Lib.hid hw
        have HNA := Lib.hid (show (Int.tdiv n 10).natAbs = n.natAbs / 10 by rw [Int.natAbs_tdiv]; rfl)
        have HR2 := Lib.hid (show -9223372036854775808 ≤ Int.tdiv n 10 ∧ Int.tdiv n 10 ≤ 9223372036854775807 by have := HNA.out; omega)
        have HSM := Lib.hid (show ¬ n.natAbs < 10 by omega)
        have hd1 := dig_one n
        obtain ⟨ji, hji⟩ : ∃ j, mx (Int.tmod n 10) (wrap64 (-(Int.tmod n 10))) = j := ⟨_, rfl⟩
        have hji_ : (if (Int.tmod n 10) < (wrap64 (-(Int.tmod n 10))) then (wrap64 (-(Int.tmod n 10))) else (Int.tmod n 10)) = ji := hji
        rw [hji] at hd1
        have HD1 := Lib.hid hd1
        have hz1 : (strOfNums [(wrap64 (48 + ji)) % 256]).size + acc.size ≤ 9223372036854775807 := by
          rw [hd1]
          have h9 := hS.out
          show 1 + acc.size ≤ _
          omega
        have HN01 := Lib.hid (And.intro hn0 hn1)
        clear hji hd1 hw hA hS hn0 hn1 c2 c8
        go_wp2_with (first | ((with_reducible refine gate_dst (N := 22) rfl ?_); refine Kd.R_lit (Kd.int .u8) _ 5 ?hg (N := 22) ?hd (xs := ([(wrap64 (48 + (ji))) % 256] : List Int)) (inner := [.int .u8 ((wrap64 (48 + (ji))) % 256)]) (ok := fun _ => True) (okp := fun _ => True) ?hr ?hp (fun _ hk => hk) trivial (Below.refl _ _) (Nat.le_refl _) (by simp) ?_; (case hd => rfl); (case hg => rfl); (case hr => first | (go_simp; done) | (go_simp; rfl)); (case hp => exact (Reps.one (show Kd.M (Kd.int .u8) _ _ _ ((wrap64 (48 + (ji))) % 256) [.int .u8 ((wrap64 (48 + (ji))) % 256)] from rfl) (Reps.none _ _))); intro v115 w5 ho6 hb hg_ hnew_; clear hg_ hnew_; have hcv7 := own_string (P := Tryz.prog) Tryz.underlying63 Tryz.underlying5 Tryz.underlying9 (Kd.own_of_R ho6); have HBN := Lib.hid (hB.out.trans (hb.mono hB.out.size)); clear hb ho6))
        go_roundw
        case rel => exact ⟨Int.tdiv n 10, _, _, by rw [HW.out], rfl, rfl, HR2.out.1, HR2.out.2, Lib.hid (by rw [HD1.out]; exact hstep.out), Lib.hid (size_le_of (by rw [HD1.out]; exact hstep.out) HDS.out), HBN⟩
        case measure =>
          try rw [HW.out]
          have h9 := HNA.out
          have h8 := HSM.out
          show (Int.tdiv n 10).natAbs < n.natAbs
          omega
      · have c8b0 : decide (n < (-9)) = false := decide_eq_false c8
        have hd1 := dig_small n (by omega)
        obtain ⟨ji, hji⟩ : ∃ j, mx n (wrap64 (-n)) = j := ⟨_, rfl⟩
        have hji_ : (if n < (wrap64 (-n)) then (wrap64 (-n)) else n) = ji := hji
        rw [hji] at hd1
        have HEQ := Lib.hid (show strOfNums [(wrap64 (48 + ji)) % 256] ++ acc = D by rw [hd1]; exact hA.out)
        have hz0 : (strOfNums [(wrap64 (48 + ji)) % 256]).size + acc.size = D.size := by rw [← HEQ.out, ByteArray.size_append]
        have hds := HDS.out
        have hz1 : (strOfNums [(wrap64 (48 + ji)) % 256]).size + acc.size ≤ 9223372036854775807 := by omega
        have hz2 : 1 + ((strOfNums [(wrap64 (48 + ji)) % 256]).size + acc.size) ≤ 9223372036854775807 := by omega
        have hz3 : 1 + (strOfNums [(wrap64 (48 + ji)) % 256] ++ acc).size ≤ 9223372036854775807 := by rw [ByteArray.size_append]; omega
        clear hji hd1 hA hS hz0 hds hn0 hn1 c2 c8
        cases sg with
        | true =>
          have HR := Lib.hid (show (⟨#[45]⟩ : ByteArray) ++ (strOfNums [(wrap64 (48 + ji)) % 256] ++ acc) = T by rw [HEQ.out, HIT.out, if_pos rfl])
          go_wp2_with (first | ((with_reducible refine gate_dst (N := 34) rfl ?_); refine Kd.R_lit (Kd.int .u8) _ 5 ?hg (N := 34) ?hd (xs := ([(wrap64 (48 + (ji))) % 256] : List Int)) (inner := [.int .u8 ((wrap64 (48 + (ji))) % 256)]) (ok := fun _ => True) (okp := fun _ => True) ?hr ?hp (fun _ hk => hk) trivial (Below.refl _ _) (Nat.le_refl _) (by simp) ?_; (case hd => rfl); (case hg => rfl); (case hr => first | (go_simp; done) | (go_simp; rfl)); (case hp => exact (Reps.one (show Kd.M (Kd.int .u8) _ _ _ ((wrap64 (48 + (ji))) % 256) [.int .u8 ((wrap64 (48 + (ji))) % 256)] from rfl) (Reps.none _ _))); intro v115 w5 ho6 hb hg_ hnew_; clear hg_ hnew_; have hcv7 := own_string (P := Tryz.prog) Tryz.underlying63 Tryz.underlying5 Tryz.underlying9 (Kd.own_of_R ho6); have HBN := Lib.hid (hB.out.trans (hb.mono hB.out.size)); clear hb ho6))
          go_ret
          exact ⟨by rw [← HR.out]; rfl, HBN.out⟩
        | false =>
          have HR := Lib.hid (show strOfNums [(wrap64 (48 + ji)) % 256] ++ acc = T by rw [HEQ.out, HIT.out, if_neg (by simp)])
          go_wp2_with (first | ((with_reducible refine gate_dst (N := 34) rfl ?_); refine Kd.R_lit (Kd.int .u8) _ 5 ?hg (N := 34) ?hd (xs := ([(wrap64 (48 + (ji))) % 256] : List Int)) (inner := [.int .u8 ((wrap64 (48 + (ji))) % 256)]) (ok := fun _ => True) (okp := fun _ => True) ?hr ?hp (fun _ hk => hk) trivial (Below.refl _ _) (Nat.le_refl _) (by simp) ?_; (case hd => rfl); (case hg => rfl); (case hr => first | (go_simp; done) | (go_simp; rfl)); (case hp => exact (Reps.one (show Kd.M (Kd.int .u8) _ _ _ ((wrap64 (48 + (ji))) % 256) [.int .u8 ((wrap64 (48 + (ji))) % 256)] from rfl) (Reps.none _ _))); intro v115 w5 ho6 hb hg_ hnew_; clear hg_ hnew_; have hcv7 := own_string (P := Tryz.prog) Tryz.underlying63 Tryz.underlying5 Tryz.underlying9 (Kd.own_of_R ho6); have HBN := Lib.hid (hB.out.trans (hb.mono hB.out.size)); clear hb ho6))
          go_ret
          exact ⟨by rw [← HR.out]; rfl, HBN.out⟩
set_option maxHeartbeats 3200000 in
set_option maxRecDepth 100000 in
theorem shown_call (x : S36) (A4 : Option Addr) (c4 : Nat) (A5 : Option Addr) (c5 : Nat) (w : World) (hs : simpV x = true) :
    Calls Tryz.prog 24 #[.agg #[.int .i64 x.f0, .int .i64 x.f1, .float .f64 x.f2, .string x.f3, .slice A4 x.f4.length c4, .slice A5 x.f5.length c5]] w fun e w' => ∃ t, e = .returned (.tuple #[.string t, .bool (fullV x)]) ∧ (fullV x = true → t = txtV x) ∧ Below w.heap.size w w' := by
  obtain ⟨h0, _, h2, h3⟩ := simpV_out hs
  obtain ⟨f0, f1, f2, f3, f4, f5⟩ := x
  simp only at *
  have HB := Lib.hid (fun o => (Below.refl w.heap.size w).alloc (Nat.le_refl _) o)
  have HW := Lib.hid (fun W => whole_call f1 h2 h3 W)
  clear hs h2 h3
  rcases h0 with rfl | rfl | rfl | rfl | rfl
  · go_enter Tryz.func24, Tryz.ntmps24
    go_wp2
    go_ret2
    exact ⟨_, rfl, (fun h => by cases h), HB.out _⟩
  · by_cases hf : f1 = 1
    · subst hf
      go_enter Tryz.func24, Tryz.ntmps24
      go_wp2
      go_ret2
      exact ⟨_, rfl, (fun h => by simp only [txtV, if_true]; exact (by decide +kernel : (⟨#[116, 114, 117, 101]⟩ : ByteArray) = ⟨(Lib.formatBool ((1 : Int) == 1)).toArray⟩)), HB.out _⟩
    · have hb : (f1 == 1) = false := beq_eq_false_iff_ne.2 hf
      have HT := Lib.hid (show txtV ⟨1, f1, f2, f3, f4, f5⟩ = ⟨#[102, 97, 108, 115, 101]⟩ by simp only [txtV, if_true, hb]; exact (by decide +kernel : (⟨(Lib.formatBool false).toArray⟩ : ByteArray) = ⟨#[102, 97, 108, 115, 101]⟩))
      clear hf
      go_enter Tryz.func24, Tryz.ntmps24
      go_wp2
      go_ret2
      exact ⟨_, rfl, (fun h => HT.out.symm), HB.out _⟩
  · go_enter Tryz.func24, Tryz.ntmps24
    go_wp2_with fail
    refine (HW.out _).mono ?_
    rintro e w1 ⟨rfl, hb1⟩
    have HB1 := Lib.hid ((HB.out _).trans (hb1.mono (by simp)))
    clear hb1 HW
    go_wp2
    go_ret2
    exact ⟨_, rfl, (fun h => rfl), HB1.out⟩
  · go_enter Tryz.func24, Tryz.ntmps24
    go_wp2_with fail
    refine (HW.out _).mono ?_
    rintro e w1 ⟨rfl, hb1⟩
    have HB1 := Lib.hid ((HB.out _).trans (hb1.mono (by simp)))
    clear hb1 HW
    go_wp2
    go_ret2
    exact ⟨_, rfl, (fun h => rfl), HB1.out⟩
  · go_enter Tryz.func24, Tryz.ntmps24
    go_wp2
    go_ret2
    exact ⟨_, rfl, (fun h => rfl), HB.out _⟩
set_option maxHeartbeats 3200000 in
set_option maxRecDepth 100000 in
theorem shownAll_call (l : List S36) (A : Option Addr) (c : Nat) (w : World) (hs : ∀ x ∈ l, simpV x = true) (hl : l.length ≤ 1000) (hc : k36.C w A l.length l) :
    Calls Tryz.prog 11 #[.slice A l.length c] w fun e w' => ∃ u, e = .returned u ∧ Kd.string.R 9 w' w.heap.size (fun _ => True) u ((l.filter fullV).map txtV) ∧ Below w.heap.size w w' := by
  have HF := Lib.hid hs
  have HC := Lib.hid hc
  clear hs hc
  obtain ⟨N, hNN⟩ : ∃ N, N = l.length := ⟨_, rfl⟩
  have HN := Lib.hid hNN
  rw [← hNN] at hl ⊢
  clear hNN
  have HG := Lib.hid (show Kd.string.R 9 (w.alloc (.cells #[] 9)) w.heap.size (fun _ => True) (.slice (some ⟨w.heap.size, 0, none⟩) 0 0) [] from ⟨fun _ _ => trivial, OwnRow.lit (inner := []) w w.heap.size (Reps.none _ _) (Nat.le_refl _) (by decide)⟩)
  have HB := Lib.hid ((Below.refl w.heap.size w).alloc (Nat.le_refl _) (.cells #[] 9))
  have HS := Lib.hid (show w.heap.size ≤ (w.alloc (.cells #[] 9)).heap.size by simp)
  go_enter Tryz.func11, Tryz.ntmps11
  go_wp2
  go_loopw [3, 10] (fun v i wr => ∃ (k : Nat) (v' : Value), v' = v ∧ i = .int .i64 k ∧ k ≤ N ∧ Hid (Kd.string.R 9 wr w.heap.size (fun _ => True) v' (((l.take k).filter fullV).map txtV)) ∧ Hid (Below w.heap.size w wr) ∧ Hid (w.heap.size ≤ wr.heap.size)) (fun _ i _ => N - (intOf i).toNat)
  case atStart => exact ⟨0, _, rfl, rfl, Nat.zero_le _, by rw [List.take_zero]; exact HG, HB, HS⟩
  case round =>
    clear HG HB HS
    obtain ⟨k, v, rfl, rfl, hk, hG, hB, hS⟩ := hrel
    by_cases ck : k < N
    · obtain ⟨ad, A4, c4, A5, c5, rfl, q0, q1, q2, q3, q4, q5, l4, g4, l5, g5⟩ := at_T36 (Kd.C_below HC.out hB.out) (k : Int) (by omega) (by rw [← HN.out]; omega)
      simp only [Int.toNat_natCast] at q0 q1 q2 q3 q4 q5
      have hkl : k < l.length := by rw [← HN.out]; exact ck
      have hkd : rd_T36 l (k : Int) = l.getD k z36 := by unfold rd_T36; rw [Int.toNat_natCast]
      have hsx : simpV (rd_T36 l (k : Int)) = true := by rw [hkd]; exact HF.out _ (getD_mem hkl)
      have HTK := Lib.hid (show (l.take (k + 1)).filter fullV = (l.take k).filter fullV ++ (if fullV (rd_T36 l (k : Int)) then [rd_T36 l (k : Int)] else []) by rw [hkd]; exact takeF hkl)
      obtain ⟨xs, hxs⟩ : ∃ xs, xs = ((l.take k).filter fullV).map txtV := ⟨_, rfl⟩
      have HXS := Lib.hid hxs
      have HLT := Lib.hid (show xs.length ≤ k by rw [hxs, List.length_map]; exact takeF_le (l := l) (k := k))
      rw [← hxs] at hG
      have HSX := Lib.hid hsx
      clear hkd hkl hsx hxs g4 g5
      generalize rd_T36 l (k : Int) = x at *
      have HSH := Lib.hid (fun W => shown_call x A4 c4 A5 c5 W HSX.out)
      cases hf : fullV x with
      | true =>
        rw [hf] at HSH HTK
        go_wp2_with fail
        refine (HSH.out _).mono ?_
        rintro e w2 ⟨tx, rfl, htx, hb0⟩
        have hb : Below wr.heap.size wr w2 := by first | exact hb0 | exact ((Below.refl wr.heap.size wr).drew).trans (hb0.mono (Nat.le_refl _)) | exact (pw_below_drewN (Below.refl wr.heap.size wr) _).trans (hb0.mono (Nat.le_refl _))
        have HTX := Lib.hid (show ((l.take (k + 1)).filter fullV).map txtV = xs ++ [tx] by rw [HTK.out, HXS.out, htx (by trivial)]; simp)
        have HG2 := Lib.hid (Kd.R_below hG.out hb)
        have HB2 := Lib.hid (hB.out.trans (hb.mono hS.out))
        have HS2 := Lib.hid (Nat.le_trans hS.out hb.size)
        have HM := Lib.hid (show Kd.string.M w2 w.heap.size (fun _ => False) tx [.string tx] from rfl)
        clear hb hb0 hG hB hS HSH q0 q1 q2 q3 q4 q5 htx hf HTK HXS HSX
        go_wp2_with (at_builtin; refine Kd.R_append Kd.string (w0 := w) w.heap.size rfl _ _ 27 9 (.string ⟨#[]⟩) 16 rfl Tryz.underlying27 info_str rfl (Nat.succ_pos 0) (by decide) v xs tx [.string tx] (fun _ => True) (fun _ => False) rfl rfl HM.out (fun _ h => h.elim) (fun _ _ => trivial) HG2.out HB2.out HS2.out (by have := HLT.out; omega) ?_)
        intro v1 w3 h1 hb3 hgr hat
        have HG3 := Lib.hid (show Kd.string.R 9 w3 w.heap.size (fun _ => True) v1 (((l.take (k + 1)).filter fullV).map txtV) by rw [HTX.out]; exact h1)
        have HB3 := Lib.hid hb3
        have HS3 := Lib.hid (Nat.le_trans HS2.out hgr.size)
        clear h1 hb3 hgr hat HG2 HB2 HS2 HTX HLT HM
        go_wp2
        go_roundw
        case rel => exact ⟨k + 1, v1, rfl, by go_num, by omega, HG3, HB3, HS3⟩
        case measure => simp [intOf]; omega
      | false =>
        rw [hf] at HSH HTK
        go_wp2_with fail
        refine (HSH.out _).mono ?_
        rintro e w2 ⟨tx, rfl, htx, hb0⟩
        have hb : Below wr.heap.size wr w2 := by first | exact hb0 | exact ((Below.refl wr.heap.size wr).drew).trans (hb0.mono (Nat.le_refl _)) | exact (pw_below_drewN (Below.refl wr.heap.size wr) _).trans (hb0.mono (Nat.le_refl _))
        have HG2 := Lib.hid (show Kd.string.R 9 w2 w.heap.size (fun _ => True) v (((l.take (k + 1)).filter fullV).map txtV) by rw [HTK.out]; simpa [← HXS.out] using Kd.R_below hG.out hb)
        have HB2 := Lib.hid (hB.out.trans (hb.mono hS.out))
        have HS2 := Lib.hid (Nat.le_trans hS.out hb.size)
        clear hb hb0 hG hB hS HSH q0 q1 q2 q3 q4 q5 htx hf HTK HXS HSX HLT
        go_wp2
        go_roundw
        case rel => exact ⟨k + 1, v, rfl, by go_num, by omega, HG2, HB2, HS2⟩
        case measure => simp [intOf]; omega
    · have hkn : k = N := by omega
      subst hkn
      have HG3 := Lib.hid (show Kd.string.R 9 wr w.heap.size (fun _ => True) v ((l.filter fullV).map txtV) by have := hG.out; rwa [HN.out, List.take_length] at this)
      clear hG
      go_wp2
      go_ret
      exact ⟨v, rfl, HG3.out, hB.out⟩
end Go.Proofs.YtgjcejgcljjdhaaGreatDoor.P
