/- spec.Same and spec.SameList: two values, or lists of values, are the same. -/
import Derived.Test.YtffkinonnkbcpaaG1
import Derived.Lib.Hide
import Derived.Test.YtffkinonnkbcpaaPx1
set_option linter.unusedVariables false
set_option linter.unusedSimpArgs false
namespace Go.Proofs.Ytffkinonnkbcpaa.P
open Go.RowKit Go.Proofs.YtffkinonnkbcpaaW.PrintWords Go.Proofs.YtffkinonnkbcpaaW.PrintLast Go.Proofs.YtffkinonnkbcpaaW.PrintMore
attribute [local go_sem] run_store_float

/-- Bare, as a Bool. -/
def bareB (x y : S31) : Bool := (spec_Bare.f x.f0 x.f1 x.f2 x.f3 x.f4 x.f5 y.f0 y.f1 y.f2 y.f3 y.f4 y.f5).getD false
theorem bare_some (x y : S31) : spec_Bare.f x.f0 x.f1 x.f2 x.f3 x.f4 x.f5 y.f0 y.f1 y.f2 y.f3 y.f4 y.f5 = some (bareB x y) := by
  unfold bareB spec_Bare.f
  repeat' split
  all_goals rfl
def SameP : Nat → S31 → S31 → Prop
  | 0, _, _ => True
  | n + 1, x, y => bareB x y = true ∧ x.f4.length = y.f4.length ∧ x.f5.length = y.f5.length ∧ (∀ j, j < x.f4.length → (rdOf ByteArray.empty x.f4 (j : Int)).toList = (rdOf ByteArray.empty y.f4 (j : Int)).toList) ∧ ∀ j, j < x.f5.length → SameP n (rd_T31 x.f5 (j : Int)) (rd_T31 y.f5 (j : Int))
def SameListP (n : Nat) (l m : List S31) : Prop := l.length = m.length ∧ ∀ j, j < l.length → SameP n (rd_T31 l (j : Int)) (rd_T31 m (j : Int))
def BoolPost (p : Prop) (w : World) (e : Ending) (w' : World) : Prop := ∃ r : Bool, e = .returned (.bool r) ∧ (r = true ↔ p) ∧ Below w.heap.size w w'
def SameOk (n : Nat) : Prop := ∀ (x y : S31) (A4 : Option Addr) (c4 : Nat) (A5 : Option Addr) (c5 : Nat) (B4 : Option Addr) (d4 : Nat) (B5 : Option Addr) (d5 : Nat) (w : World), fitsN n x → x.f4.length ≤ 300 → Kd.string.C w A4 x.f4.length x.f4 → x.f4.length ≤ c4 → k31.C w A5 x.f5.length x.f5 → x.f5.length ≤ c5 → Kd.string.C w B4 y.f4.length y.f4 → y.f4.length ≤ d4 → k31.C w B5 y.f5.length y.f5 → y.f5.length ≤ d5 →
  Calls Try.prog 21 #[.agg #[.int .i64 x.f0, .int .i64 x.f1, .float .f64 x.f2, .string x.f3, .slice A4 x.f4.length c4, .slice A5 x.f5.length c5], .agg #[.int .i64 y.f0, .int .i64 y.f1, .float .f64 y.f2, .string y.f3, .slice B4 y.f4.length d4, .slice B5 y.f5.length d5]] w (BoolPost (SameP n x y) w)
def SameListOk (n : Nat) : Prop := ∀ (l m : List S31) (A : Option Addr) (c : Nat) (B : Option Addr) (d : Nat) (w : World), (∀ i, i < l.length → fitsN n (l.getD i z31)) → l.length ≤ 1000 → k31.C w A l.length l → l.length ≤ c → k31.C w B m.length m → m.length ≤ d →
  Calls Try.prog 8 #[.slice A l.length c, .slice B m.length d] w (BoolPost (SameListP n l m) w)
theorem fits_keys {n : Nat} {x : S31} (h : fitsN n x) : x.f4.length ≤ 300 := by
  cases n with
  | zero => exact h.elim
  | succ n =>
    obtain ⟨_, _, hl, _, _, _, h7, h4, _⟩ := h
    by_cases h0 : x.f0 = 7
    · rw [(h7 h0).1]; exact hl
    · rw [h4 h0]; simp
set_option maxHeartbeats 3200000 in
set_option maxRecDepth 100000 in
theorem same_step {n : Nat} (hL : SameListOk n) : SameOk (n + 1) := by
  intro x y A4 c4 A5 c5 B4 d4 B5 d5 w hx hkl h4 hc4 h5 hc5 g4 gc4 g5 gc5
  have HX := Lib.hid hx
  have HL := Lib.hid hL
  have H4 := Lib.hid h4
  have H5 := Lib.hid h5
  have G4 := Lib.hid g4
  have G5 := Lib.hid g5
  have hbs := bare_some x y
  obtain ⟨W2, hW2⟩ : ∃ W2, W2 = (w.alloc (.cells #[.int .i64 x.f0, .int .i64 x.f1, .float .f64 x.f2, .string x.f3, .slice A4 x.f4.length c4, .slice A5 x.f5.length c5] 31)).alloc (.cells #[.int .i64 y.f0, .int .i64 y.f1, .float .f64 y.f2, .string y.f3, .slice B4 y.f4.length d4, .slice B5 y.f5.length d5] 31) := ⟨_, rfl⟩
  have hz2 : W2.heap.size = w.heap.size + 2 := by rw [hW2]; simp
  have hB2 : Below w.heap.size w W2 := by rw [hW2]; exact ((Below.refl _ _).alloc (Nat.le_refl _) _).alloc (by simp) _
  have hb0 : W2.heap[w.heap.size]? = some (.cells #[.int .i64 x.f0, .int .i64 x.f1, .float .f64 x.f2, .string x.f3, .slice A4 x.f4.length c4, .slice A5 x.f5.length c5] 31 (0, 0)) := by rw [hW2]; exact blk_alloc (blk_new w _) _
  have hb1 : W2.heap[w.heap.size + 1]? = some (.cells #[.int .i64 y.f0, .int .i64 y.f1, .float .f64 y.f2, .string y.f3, .slice B4 y.f4.length d4, .slice B5 y.f5.length d5] 31 (0, 0)) := by
    have := blk_new (w.alloc (.cells #[.int .i64 x.f0, .int .i64 x.f1, .float .f64 x.f2, .string x.f3, .slice A4 x.f4.length c4, .slice A5 x.f5.length c5] 31)) (.cells #[.int .i64 y.f0, .int .i64 y.f1, .float .f64 y.f2, .string y.f3, .slice B4 y.f4.length d4, .slice B5 y.f5.length d5] 31)
    rw [size_alloc1] at this
    rw [hW2]
    exact this
  have HBARE := Lib.hid (fun b (hb : bareB x y = b) => spec_Bare.calls x.f0 x.f1 x.f2 x.f3 A4 c4 x.f4 A5 c5 x.f5 y.f0 y.f1 y.f2 y.f3 B4 d4 y.f4 B5 d5 y.f5 b W2 (Kd.C_below h4 (hB2)) hc4 (Kd.C_below h5 hB2) hc5 (Kd.C_below g4 hB2) gc4 (Kd.C_below g5 hB2) gc5 (by rw [hbs, hb]))
  have HW2 := Lib.hid hW2
  have HZ2 := Lib.hid hz2
  have HB2 := Lib.hid hB2
  have HB0 := Lib.hid hb0
  have HB1 := Lib.hid hb1
  clear hx hL h4 h5 g4 g5 hbs hW2 hz2 hB2 hb0 hb1
  cases hb : bareB x y with
  | false =>
    have HBC := Lib.hid (HBARE.out false hb)
    have HF := Lib.hid (show ¬ SameP (n + 1) x y from fun h => by rw [h.1] at hb; cases hb)
    clear hb HBARE
    go_enter Try.func21, Try.ntmps21
    go_wp2_with fail
    rw [← HW2.out]
    refine HBC.out.mono ?_
    rintro e w3 ⟨rfl, hb3⟩
    have HB3 := Lib.hid hb3
    clear hb3
    go_wp2
    go_ret
    exact ⟨false, rfl, ⟨(fun h => by cases h), fun h => absurd h HF.out⟩, HB2.out.trans (HB3.out.mono (by rw [HZ2.out]; omega))⟩
  | true =>
    have HBC := Lib.hid (HBARE.out true hb)
    have HBT := Lib.hid hb
    clear hb HBARE
    by_cases hk : x.f4.length = y.f4.length
    · by_cases hv : x.f5.length = y.f5.length
      · have HK := Lib.hid hk
        have HV := Lib.hid hv
        have k1 : ((x.f4.length : Int) == (y.f4.length : Int)) = true := by simp [hk]
        have k2 : ((x.f4.length : Int) != (y.f4.length : Int)) = false := by simp [hk]
        have k3 : (x.f4.length == y.f4.length) = true := by simp [hk]
        have v1 : ((x.f5.length : Int) == (y.f5.length : Int)) = true := by simp [hv]
        have v2 : ((x.f5.length : Int) != (y.f5.length : Int)) = false := by simp [hv]
        have v3 : (x.f5.length == y.f5.length) = true := by simp [hv]
        clear hk hv
        go_enter Try.func21, Try.ntmps21
        go_wp2_with fail
        rw [← HW2.out]
        refine HBC.out.mono ?_
        rintro e w3 ⟨rfl, hb3⟩
        have HB3 := Lib.hid hb3
        have hx3 := blk_below HB0.out hb3
        have hy3 := blk_below HB1.out hb3
        have HX3 := Lib.hid hx3
        have HY3 := Lib.hid hy3
        have a4 := (blk_cell hx3 4).trans rfl
        have a5 := (blk_cell hx3 5).trans rfl
        have b4 := (blk_cell hy3 4).trans rfl
        have b5 := (blk_cell hy3 5).trans rfl
        clear hb3 hx3 hy3
        go_wp2
        go_loopw [5] (fun i wr => ∃ k : Nat, i = .int .i64 k ∧ k ≤ x.f4.length ∧ Hid (∀ j, j < k → (rdOf ByteArray.empty x.f4 (j : Int)).toList = (rdOf ByteArray.empty y.f4 (j : Int)).toList) ∧ Hid (Below w.heap.size w wr) ∧ Hid (w.heap.size + 1 < wr.heap.size) ∧ Hid (wr.heap[w.heap.size]? = some (.cells #[.int .i64 x.f0, .int .i64 x.f1, .float .f64 x.f2, .string x.f3, .slice A4 x.f4.length c4, .slice A5 x.f5.length c5] 31 (0, 0))) ∧ Hid (wr.heap[w.heap.size + 1]? = some (.cells #[.int .i64 y.f0, .int .i64 y.f1, .float .f64 y.f2, .string y.f3, .slice B4 y.f4.length d4, .slice B5 y.f5.length d5] 31 (0, 0)))) (fun i _ => x.f4.length - (intOf i).toNat)
        case atStart => exact ⟨0, rfl, Nat.zero_le _, Lib.hid (fun j hj => absurd hj (by omega)), Lib.hid (HB2.out.trans (HB3.out.mono (by rw [HZ2.out]; omega))), Lib.hid (by have := HB3.out.size; rw [HZ2.out] at this; omega), HX3, HY3⟩
        case round =>
          clear HX3 HY3 HB3 a4 a5 b4 b5 HBC HB0 HB1
          obtain ⟨k, rfl, hkn, hS, hB, hZ, hX, hY⟩ := hrel
          have a4 := (blk_cell hX.out 4).trans rfl
          have a5 := (blk_cell hX.out 5).trans rfl
          have b4 := (blk_cell hY.out 4).trans rfl
          have b5 := (blk_cell hY.out 5).trans rfl
          by_cases ck : k < x.f4.length
          · obtain ⟨ax, rfl, t0⟩ := Kd.at_string (Kd.C_below H4.out hB.out) (k : Int) (by omega) (by omega)
            obtain ⟨ay, rfl, t1⟩ := Kd.at_string (Kd.C_below G4.out hB.out) (k : Int) (by omega) (by have := HK.out; omega)
            simp only [Int.toNat_natCast] at t0 t1
            have ck2 : k < y.f4.length := by have := HK.out; omega
            have ci1 : (k : Int) < (x.f4.length : Int) := by omega
            have ci2 : (k : Int) < (y.f4.length : Int) := by omega
            have ci0 : (0 : Int) ≤ (k : Int) := by omega
            by_cases ce : (rdOf ByteArray.empty x.f4 (k : Int)).toList = (rdOf ByteArray.empty y.f4 (k : Int)).toList
            · have HE := Lib.hid (show ∀ j, j < k + 1 → (rdOf ByteArray.empty x.f4 (j : Int)).toList = (rdOf ByteArray.empty y.f4 (j : Int)).toList from fun j hj => by
                by_cases hjk : j < k
                · exact hS.out j hjk
                · have : j = k := by omega
                  subst this
                  exact ce)
              have ce1 : ((rdOf ByteArray.empty x.f4 (k : Int)).toList != (rdOf ByteArray.empty y.f4 (k : Int)).toList) = false := by simp [ce]
              have ce2 : ((rdOf ByteArray.empty x.f4 (k : Int)).toList == (rdOf ByteArray.empty y.f4 (k : Int)).toList) = true := by simp [ce]
              clear ce hS
              generalize rdOf ByteArray.empty x.f4 (k : Int) = sx at *
              generalize rdOf ByteArray.empty y.f4 (k : Int) = sy at *
              go_wp2
              go_quiet (fail)
              go_wp2
              go_roundw
              case rel => exact ⟨k + 1, by go_num, by omega, HE, Lib.hid (pw_below_drewN hB.out _), hZ, hX, hY⟩
              case measure => simp [intOf]; omega
            · have HF := Lib.hid (show ¬ SameP (n + 1) x y from fun h => ce (h.2.2.2.1 k ck))
              have ce1 : ((rdOf ByteArray.empty x.f4 (k : Int)).toList != (rdOf ByteArray.empty y.f4 (k : Int)).toList) = true := by simpa using ce
              have ce2 : ((rdOf ByteArray.empty x.f4 (k : Int)).toList == (rdOf ByteArray.empty y.f4 (k : Int)).toList) = false := by simpa using ce
              clear ce hS
              generalize rdOf ByteArray.empty x.f4 (k : Int) = sx at *
              generalize rdOf ByteArray.empty y.f4 (k : Int) = sy at *
              go_wp2
              go_quiet (fail)
              go_wp2
              go_ret
              exact ⟨false, rfl, ⟨(fun h => by cases h), fun h => absurd h HF.out⟩, pw_below_drewN hB.out _⟩
          · have hkn : k = x.f4.length := by omega
            subst hkn
            have HIFF := Lib.hid (show SameListP n x.f5 y.f5 ↔ SameP (n + 1) x y from ⟨fun h => ⟨HBT.out, HK.out, HV.out, hS.out, h.2⟩, fun h => ⟨HV.out, h.2.2.2.2⟩⟩)
            have HLC := Lib.hid (HL.out x.f5 y.f5 A5 c5 B5 d5 wr HX.out.2.2.2.2.2.1 (by have := HX.out.2.2.1; omega) (Kd.C_below H5.out hB.out) hc5 (Kd.C_below G5.out hB.out) gc5)
            clear hS hX hY HBT HX
            go_wp2_with fail
            refine HLC.out.mono ?_
            rintro e w4 ⟨r, rfl, hr, hb4⟩
            have HR := Lib.hid hr
            have HB4 := Lib.hid hb4
            clear hr hb4
            go_wp2
            go_ret
            exact ⟨r, rfl, HR.out.trans HIFF.out, hB.out.trans (HB4.out.mono (by have := hZ.out; omega))⟩
      · have HF := Lib.hid (show ¬ SameP (n + 1) x y from fun h => hv h.2.2.1)
        have k1 : ((x.f4.length : Int) == (y.f4.length : Int)) = true := by simp [hk]
        have k2 : ((x.f4.length : Int) != (y.f4.length : Int)) = false := by simp [hk]
        have k3 : (x.f4.length == y.f4.length) = true := by simp [hk]
        have v1 : ((x.f5.length : Int) == (y.f5.length : Int)) = false := by simpa using (show ¬ (x.f5.length : Int) = y.f5.length by omega)
        have v2 : ((x.f5.length : Int) != (y.f5.length : Int)) = true := by simpa using (show ¬ (x.f5.length : Int) = y.f5.length by omega)
        have v3 : (x.f5.length == y.f5.length) = false := by simpa using hv
        clear hk hv
        go_enter Try.func21, Try.ntmps21
        go_wp2_with fail
        rw [← HW2.out]
        refine HBC.out.mono ?_
        rintro e w3 ⟨rfl, hb3⟩
        have HB3 := Lib.hid hb3
        have hx3 := blk_below HB0.out hb3
        have hy3 := blk_below HB1.out hb3
        have HX3 := Lib.hid hx3
        have HY3 := Lib.hid hy3
        have a4 := (blk_cell hx3 4).trans rfl
        have a5 := (blk_cell hx3 5).trans rfl
        have b4 := (blk_cell hy3 4).trans rfl
        have b5 := (blk_cell hy3 5).trans rfl
        clear hb3 hx3 hy3
        go_wp2
        go_ret
        exact ⟨false, rfl, ⟨(fun h => by cases h), fun h => absurd h HF.out⟩, HB2.out.trans (HB3.out.mono (by rw [HZ2.out]; omega))⟩
    · have HF := Lib.hid (show ¬ SameP (n + 1) x y from fun h => hk h.2.1)
      have k1 : ((x.f4.length : Int) == (y.f4.length : Int)) = false := by simpa using (show ¬ (x.f4.length : Int) = y.f4.length by omega)
      have k2 : ((x.f4.length : Int) != (y.f4.length : Int)) = true := by simpa using (show ¬ (x.f4.length : Int) = y.f4.length by omega)
      have k3 : (x.f4.length == y.f4.length) = false := by simpa using hk
      clear hk
      go_enter Try.func21, Try.ntmps21
      go_wp2_with fail
      rw [← HW2.out]
      refine HBC.out.mono ?_
      rintro e w3 ⟨rfl, hb3⟩
      have HB3 := Lib.hid hb3
      have hx3 := blk_below HB0.out hb3
      have hy3 := blk_below HB1.out hb3
      have HX3 := Lib.hid hx3
      have HY3 := Lib.hid hy3
      have a4 := (blk_cell hx3 4).trans rfl
      have a5 := (blk_cell hx3 5).trans rfl
      have b4 := (blk_cell hy3 4).trans rfl
      have b5 := (blk_cell hy3 5).trans rfl
      clear hb3 hx3 hy3
      go_wp2
      go_ret
      exact ⟨false, rfl, ⟨(fun h => by cases h), fun h => absurd h HF.out⟩, HB2.out.trans (HB3.out.mono (by rw [HZ2.out]; omega))⟩
set_option maxHeartbeats 3200000 in
set_option maxRecDepth 100000 in
theorem list_step {n : Nat} (hS : SameOk n) : SameListOk n := by
  intro l m A c B d w hf hl hA hc hB hd
  have HS := Lib.hid hS
  have HF := Lib.hid hf
  have HA := Lib.hid hA
  have HB := Lib.hid hB
  clear hS hf hA hB
  by_cases hn : l.length = m.length
  · have HN := Lib.hid hn
    have k1 : ((l.length : Int) == (m.length : Int)) = true := by simp [hn]
    have k2 : ((l.length : Int) != (m.length : Int)) = false := by simp [hn]
    have k3 : (l.length == m.length) = true := by simp [hn]
    clear hn
    go_enter Try.func8, Try.ntmps8
    go_wp2
    go_loopw [5] (fun i wr => ∃ k : Nat, i = .int .i64 k ∧ k ≤ l.length ∧ Hid (∀ j, j < k → SameP n (rd_T31 l (j : Int)) (rd_T31 m (j : Int))) ∧ Hid (Below w.heap.size w wr)) (fun i _ => l.length - (intOf i).toNat)
    case atStart => exact ⟨0, rfl, Nat.zero_le _, Lib.hid (fun j hj => absurd hj (by omega)), Lib.hid (Below.refl _ _)⟩
    case round =>
      obtain ⟨k, rfl, hkn, hP, hb⟩ := hrel
      by_cases ck : k < l.length
      · have ck2 : k < m.length := by have := HN.out; omega
        obtain ⟨a, A4, c4, A5, c5, rfl, p0, p1, p2, p3, p4, p5, pl4, pg4, pl5, pg5⟩ := at_T31 (Kd.C_below HA.out hb.out) (k : Int) (by omega) (by omega)
        obtain ⟨b, B4, d4, B5, d5, rfl, q0, q1, q2, q3, q4, q5, ql4, qg4, ql5, qg5⟩ := at_T31 (Kd.C_below HB.out hb.out) (k : Int) (by omega) (by omega)
        simp only [Int.toNat_natCast] at p0 p1 p2 p3 p4 p5 q0 q1 q2 q3 q4 q5
        have hfk := HF.out k ck
        have hx : rd_T31 l (k : Int) = l.getD k z31 := by simp [rd_T31]
        have HPK := Lib.hid (show (SameP n (rd_T31 l (k : Int)) (rd_T31 m (k : Int)) → ∀ j, j < k + 1 → SameP n (rd_T31 l (j : Int)) (rd_T31 m (j : Int))) ∧ (¬ SameP n (rd_T31 l (k : Int)) (rd_T31 m (k : Int)) → ¬ SameListP n l m) from ⟨fun h j hj => by
          by_cases hjk : j < k
          · exact hP.out j hjk
          · have : j = k := by omega
            subst this
            exact h, fun h h2 => h (h2.2 k ck)⟩)
        rw [← hx] at hfk
        clear hx hP
        generalize rd_T31 l (k : Int) = x at *
        generalize rd_T31 m (k : Int) = y at *
        have HC := Lib.hid (HS.out x y A4 c4 A5 c5 B4 d4 B5 d5 wr.drew hfk (fits_keys hfk) (Kd.C_below pg4 ((Below.refl wr.heap.size wr).drew)) pl4 (Kd.C_below pg5 ((Below.refl wr.heap.size wr).drew)) pl5 (Kd.C_below qg4 ((Below.refl wr.heap.size wr).drew)) ql4 (Kd.C_below qg5 ((Below.refl wr.heap.size wr).drew)) ql5)
        clear hfk pg4 pg5 qg4 qg5 pl4 pl5 ql4 ql5
        go_wp2
        refine start_ (n := 10) (ds := [8]) (S := fun w' => w'.cell? (a.add (k * 6)) = some (.int .i64 x.f0) ∧ w'.cell? ⟨(a.add (k * 6)).block, (a.add (k * 6)).off + 1, none⟩ = some (.int .i64 x.f1) ∧ w'.cell? ⟨(a.add (k * 6)).block, (a.add (k * 6)).off + 2, none⟩ = some (.float .f64 x.f2) ∧ w'.cell? ⟨(a.add (k * 6)).block, (a.add (k * 6)).off + 3, none⟩ = some (.string x.f3) ∧ w'.cell? ⟨(a.add (k * 6)).block, (a.add (k * 6)).off + 4, none⟩ = some (.slice A4 x.f4.length c4) ∧ w'.cell? ⟨(a.add (k * 6)).block, (a.add (k * 6)).off + 5, none⟩ = some (.slice A5 x.f5.length c5) ∧ w'.cell? (b.add (k * 6)) = some (.int .i64 y.f0) ∧ w'.cell? ⟨(b.add (k * 6)).block, (b.add (k * 6)).off + 1, none⟩ = some (.int .i64 y.f1) ∧ w'.cell? ⟨(b.add (k * 6)).block, (b.add (k * 6)).off + 2, none⟩ = some (.float .f64 y.f2) ∧ w'.cell? ⟨(b.add (k * 6)).block, (b.add (k * 6)).off + 3, none⟩ = some (.string y.f3) ∧ w'.cell? ⟨(b.add (k * 6)).block, (b.add (k * 6)).off + 4, none⟩ = some (.slice B4 y.f4.length d4) ∧ w'.cell? ⟨(b.add (k * 6)).block, (b.add (k * 6)).off + 5, none⟩ = some (.slice B5 y.f5.length d5)) #[false, false, false, false, false, false, false, false, false, false] (by kernel_rfl) rfl rfl ⟨p0, p1, p2, p3, p4, p5, q0, q1, q2, q3, q4, q5⟩ (fun hHeld => ?_)
        clear p0 p1 p2 p3 p4 p5 q0 q1 q2 q3 q4 q5
        refine pure_ (i := 0) (N := some 17) (v := ?_) (a' := ?_) #[true, false, false, false, false, false, false, false, false, false] rfl rfl (by kernel_rfl) (fun _ _ _ h => h) (Or.inl ⟨by rfl, ?_⟩) ?_ ?_
        rotate_left; (intro w'; go_simp; with_reducible rfl)
        rotate_left; (go_frame; rfl)
        refine pure_ (i := 1) (N := some 18) (v := ?_) (a' := ?_) #[true, true, false, false, false, false, false, false, false, false] rfl rfl (by kernel_rfl) (fun _ _ _ h => h) (Or.inl ⟨by rfl, ?_⟩) ?_ ?_
        rotate_left; (intro w'; go_simp; with_reducible rfl)
        rotate_left; (go_frame; rfl)
        refine pure_ (i := 2) (N := some 19) (v := ?_) (a' := ?_) #[true, true, true, false, false, false, false, false, false, false] rfl rfl (by kernel_rfl) (fun _ _ _ h => h) (Or.inl ⟨by rfl, ?_⟩) ?_ ?_
        rotate_left; (intro w'; go_simp; with_reducible rfl)
        rotate_left; (go_frame; rfl)
        refine take_ (i := 3) (N := some 20) (v := ?_) (a' := ?_) #[true, true, true, true, false, false, false, false, false, false] rfl rfl (by kernel_rfl) (fun _ _ _ h => h) (Or.inl ⟨by rfl, ?_⟩) hHeld ?_ ?_
        rotate_left
        · rintro w' ⟨p0, p1, p2, p3, p4, p5, q0, q1, q2, q3, q4, q5⟩
          go_simp
          with_reducible rfl
        rotate_left; (go_frame; rfl)
        refine pure_ (i := 4) (N := some 21) (v := ?_) (a' := ?_) #[true, true, true, true, true, false, false, false, false, false] rfl rfl (by kernel_rfl) (fun _ _ _ h => h) (Or.inl ⟨by rfl, ?_⟩) ?_ ?_
        rotate_left; (intro w'; go_simp; with_reducible rfl)
        rotate_left; (go_frame; rfl)
        refine pure_ (i := 5) (N := some 22) (v := ?_) (a' := ?_) #[true, true, true, true, true, true, false, false, false, false] rfl rfl (by kernel_rfl) (fun _ _ _ h => h) (Or.inl ⟨by rfl, ?_⟩) ?_ ?_
        rotate_left; (intro w'; go_simp; with_reducible rfl)
        rotate_left; (go_frame; rfl)
        refine pure_ (i := 6) (N := some 23) (v := ?_) (a' := ?_) #[true, true, true, true, true, true, true, false, false, false] rfl rfl (by kernel_rfl) (fun _ _ _ h => h) (Or.inl ⟨by rfl, ?_⟩) ?_ ?_
        rotate_left; (intro w'; go_simp; with_reducible rfl)
        rotate_left; (go_frame; rfl)
        refine take_ (i := 7) (N := some 24) (v := ?_) (a' := ?_) #[true, true, true, true, true, true, true, true, false, false] rfl rfl (by kernel_rfl) (fun _ _ _ h => h) (Or.inl ⟨by rfl, ?_⟩) hHeld ?_ ?_
        rotate_left
        · rintro w' ⟨p0, p1, p2, p3, p4, p5, q0, q1, q2, q3, q4, q5⟩
          go_simp
          with_reducible rfl
        rotate_left; (go_frame; rfl)
        refine last_ (i := 8) (N := some 25) #[true, true, true, true, true, true, true, true, true, false] rfl rfl (by kernel_rfl) (by decide) (fun K hK => ?_)
        refine goes_ Try.func21 (by kernel_rfl) rfl #[(.agg #[.int .i64 x.f0, .int .i64 x.f1, .float .f64 x.f2, .string x.f3, .slice A4 x.f4.length c4, .slice A5 x.f5.length c5]), (.agg #[.int .i64 y.f0, .int .i64 y.f1, .float .f64 y.f2, .string y.f3, .slice B4 y.f4.length d4, .slice B5 y.f5.length d5])] (by rfl) rfl rfl (by (try simp only [List.map_toArray, List.map_cons, List.map_nil]); first | done | rfl) ?_
        refine HC.out.mono ?_
        rintro e w2 ⟨r, rfl, hr, hb2⟩
        refine ⟨_, rfl, ?_⟩
        have HR := Lib.hid hr
        have HB2 := Lib.hid hb2
        clear hr hb2 hHeld HC
        refine hK.out _ _ ?_
        clear hK K
        refine norm_ (a' := ?_) ?_ ?_
        rotate_left
        · show Act.put _ (some 25) _ = _
          go_frame
          rfl
        refine pure_ (i := 9) (N := some 26) (v := ?_) (a' := ?_) #[true, true, true, true, true, true, true, true, true, true] rfl rfl (by kernel_rfl) (fun _ _ _ h => h) (Or.inl ⟨by rfl, ?_⟩) ?_ ?_
        rotate_left; (intro w'; go_simp; with_reducible rfl)
        rotate_left; (go_frame; rfl)
        refine done_ (by kernel_rfl) ?_
        have HBB := Lib.hid (show Below w.heap.size w w2 from hb.out.drew.trans (HB2.out.mono (show w.heap.size ≤ wr.heap.size from hb.out.size)))
        cases r with
        | false =>
          have hne : ¬ SameP n x y := fun h => by have := HR.out.2 h; cases this
          have HN2 := Lib.hid (HPK.out.2 hne)
          clear hne
          go_wp2
          go_ret
          exact ⟨false, rfl, ⟨(fun h => by cases h), fun h => absurd h HN2.out⟩, HBB.out⟩
        | true =>
          have HP2 := Lib.hid (HPK.out.1 (HR.out.1 rfl))
          go_wp2
          go_roundw
          case rel => exact ⟨k + 1, by go_num, by omega, HP2, HBB⟩
          case measure => simp [intOf]; omega
      · have hkn : k = l.length := by omega
        subst hkn
        have HT := Lib.hid (show SameListP n l m from ⟨HN.out, hP.out⟩)
        clear hP
        go_wp2
        go_ret
        exact ⟨true, rfl, ⟨fun _ => HT.out, fun _ => rfl⟩, hb.out⟩
  · have HNF := Lib.hid (show ¬ SameListP n l m from fun h => hn h.1)
    have k1 : ((l.length : Int) == (m.length : Int)) = false := by simpa using (show ¬ (l.length : Int) = m.length by omega)
    have k2 : ((l.length : Int) != (m.length : Int)) = true := by simpa using (show ¬ (l.length : Int) = m.length by omega)
    have k3 : (l.length == m.length) = false := by simpa using hn
    clear hn
    go_enter Try.func8, Try.ntmps8
    go_wp2
    go_ret
    exact ⟨false, rfl, ⟨(fun h => by cases h), fun h => absurd h HNF.out⟩, Below.refl _ _⟩
theorem same_all : ∀ n, SameOk n
  | 0 => fun x y A4 c4 A5 c5 B4 d4 B5 d5 w h => h.elim
  | n + 1 => same_step (list_step (same_all n))
theorem sameList_all (n : Nat) : SameListOk n := list_step (same_all n)
end Go.Proofs.Ytffkinonnkbcpaa.P
