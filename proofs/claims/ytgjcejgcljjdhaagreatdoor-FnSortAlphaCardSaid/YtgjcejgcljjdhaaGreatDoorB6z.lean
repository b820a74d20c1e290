/- spec.Simple, laws.values9, spec.Joined, laws.text9. -/
import Derived.Test.YtgjcejgcljjdhaaGreatDoorB5
import Derived.Test.YtgjcejgcljjdhaaGreatDoorB4z
set_option linter.unusedVariables false
set_option linter.unusedSimpArgs false
namespace Go.Proofs.YtgjcejgcljjdhaaGreatDoor.P
open Go.RowKit Go.Proofs.YtgjcejgcljjdhaaGreatDoorW.PrintWords Go.Proofs.YtgjcejgcljjdhaaGreatDoorW.PrintLast Go.Proofs.YtgjcejgcljjdhaaGreatDoorW.PrintMore
attribute [local go_sem] run_store_float

def goodV (x : S36) : Prop := (x.f0 = 0 ∨ x.f0 = 1 ∨ x.f0 = 2 ∨ x.f0 = 3 ∨ x.f0 = 5) ∧ x.f3.size ≤ 500
theorem good_simp {x : S36} (h : goodV x) (h1 : -9223372036854775808 ≤ x.f1) (h2 : x.f1 ≤ 9223372036854775807) : simpV x = true := by
  simp only [simpV, Bool.and_eq_true, decide_eq_true_eq]
  exact ⟨⟨⟨h.1, h.2⟩, h1⟩, h2⟩
theorem cells6 {W : World} {g : Nat} {a0 a1 a2 a3 a4 a5 : Value} {t : TypeId} (h : W.heap[g]? = some (.cells #[a0, a1, a2, a3, a4, a5] t (0, 0))) :
    W.cell? ⟨g, 0, none⟩ = some a0 ∧ W.cell? ⟨g, 1, none⟩ = some a1 ∧ W.cell? ⟨g, 2, none⟩ = some a2 ∧ W.cell? ⟨g, 3, none⟩ = some a3 ∧ W.cell? ⟨g, 4, none⟩ = some a4 ∧ W.cell? ⟨g, 5, none⟩ = some a5 :=
  ⟨by rw [blk_cell h 0]; rfl, by rw [blk_cell h 1]; rfl, by rw [blk_cell h 2]; rfl, by rw [blk_cell h 3]; rfl, by rw [blk_cell h 4]; rfl, by rw [blk_cell h 5]; rfl⟩
theorem utf8_con (s : ByteArray) (h : s.size ≤ 500) : ∃ b : Bool, ∀ w, Calls Tryz.prog 21 #[.string s] w fun e w' => e = .returned (.bool b) ∧ Below w.heap.size w w' := by
  have hs : ∃ b, spec_UTF8.f s = some b := by
    unfold spec_UTF8.f spec_Points.f
    rw [if_pos (by omega)]
    simp only [Option.bind_some]
    split
    · unfold spec_replaced.f
      rw [if_pos (by omega)]
      exact ⟨_, rfl⟩
    · exact ⟨_, rfl⟩
  obtain ⟨b, hb⟩ := hs
  exact ⟨b, fun w => spec_UTF8.calls s b w hb⟩
set_option maxHeartbeats 3200000 in
set_option maxRecDepth 100000 in
theorem simple_call (l : List S36) (A : Option Addr) (c : Nat) (w : World) (hl : l.length ≤ 2147483647) (hc : k36.C w A l.length l) :
    Calls Tryz.prog 7 #[.slice A l.length c] w fun e w' => ∃ r, e = .returned (.bool r) ∧ (r = true → l.length ≤ 20 ∧ ∀ x ∈ l, goodV x) ∧ Below w.heap.size w w' := by
  have HC := Lib.hid hc
  clear hc
  obtain ⟨N, hNN⟩ : ∃ N, N = l.length := ⟨_, rfl⟩
  have HN := Lib.hid hNN
  rw [← hNN] at hl ⊢
  clear hNN
  have HB := Lib.hid (Below.refl w.heap.size w)
  have HG := Lib.hid (show ∀ j, j < 0 → goodV (l.getD j z36) from fun j h => absurd h (by omega))
  go_enter Tryz.func7, Tryz.ntmps7
  go_wp2
  go_loopw [3, 4, 7] (fun v y i wr => ∃ (k : Nat) (v' y' : Value), v' = v ∧ y' = y ∧ i = .int .i64 k ∧ k ≤ N ∧ Hid (∀ j, j < k → goodV (l.getD j z36)) ∧ Hid (Below w.heap.size w wr)) (fun _ _ i _ => N - (intOf i).toNat)
  case atStart => exact ⟨0, _, _, rfl, rfl, rfl, Nat.zero_le _, HG, HB⟩
  case round =>
    clear HG HB
    obtain ⟨k, y1, y2, rfl, rfl, rfl, hk, hG, hB⟩ := hrel
    by_cases ck : k < N
    · obtain ⟨ad, A4, c4, A5, c5, rfl, q0, q1, q2, q3, q4, q5, l4, g4, l5, g5⟩ := at_T36 (Kd.C_below HC.out hB.out) (k : Int) (by omega) (by rw [← HN.out]; omega)
      simp only [Int.toNat_natCast] at q0 q1 q2 q3 q4 q5
      have hkl : k < l.length := by rw [← HN.out]; exact ck
      have hkd : rd_T36 l (k : Int) = l.getD k z36 := by unfold rd_T36; rw [Int.toNat_natCast]
      have HGN := Lib.hid (show goodV (rd_T36 l (k : Int)) → ∀ j, j < k + 1 → goodV (l.getD j z36) from fun hx j hj => by
        by_cases hjk : j < k
        · exact hG.out j hjk
        · have : j = k := by omega
          subst this
          rw [← hkd]
          exact hx)
      clear hkd hkl g4 g5 l4 l5 hG
      generalize rd_T36 l (k : Int) = x at *
      obtain ⟨f0, f1, f2, f3, f4, f5⟩ := x
      simp only at q0 q1 q2 q3 q4 q5
      have hBQ := Lib.hid (fun o => hB.out.alloc hB.out.size o)
      have HB0 := hB
      clear hB
      by_cases c0 : f0 < 0
      · have b0 : decide (f0 < 0) = true := decide_eq_true c0
        clear c0
        go_wp2
        go_ret
        exact ⟨false, rfl, (fun h => by cases h), hBQ.out _⟩
      have b0 : decide (f0 < 0) = false := decide_eq_false c0
      by_cases c1 : 5 < f0
      · have b1 : decide (5 < f0) = true := decide_eq_true c1
        clear c0 c1
        go_wp2
        go_ret
        exact ⟨false, rfl, (fun h => by cases h), hBQ.out _⟩
      have b1 : decide (5 < f0) = false := decide_eq_false c1
      by_cases c3 : f0 = 4
      · subst c3
        clear c0 c1 b0 b1
        go_wp2
        go_ret
        exact ⟨false, rfl, (fun h => by cases h), hBQ.out _⟩
      have b10 : (f0 == 4) = false := beq_eq_false_iff_ne.2 c3
      have HCS := Lib.hid (show f0 = 0 ∨ f0 = 1 ∨ f0 = 2 ∨ f0 = 3 ∨ f0 = 5 by omega)
      clear c0 c1 c3
      by_cases c2 : FloatKind.f64.format.order f2 0 = some Ordering.eq
      case neg =>
        have b2 : (FloatKind.f64.format.order f2 0 != some Ordering.eq) = true := by simpa using c2
        have b3 : (FloatKind.f64.format.order f2 0 == some Ordering.eq) = false := by simpa using c2
        clear c2
        go_wp2
        go_ret
        exact ⟨false, rfl, (fun h => by cases h), hBQ.out _⟩
      have b2 : (FloatKind.f64.format.order f2 0 != some Ordering.eq) = false := by simpa using c2
      have b3 : (FloatKind.f64.format.order f2 0 == some Ordering.eq) = true := by simpa using c2
      clear c2
      by_cases c4 : 0 < (f4.length : Int)
      · have b4 : decide (0 < (f4.length : Int)) = true := decide_eq_true c4
        have b5 : decide (0 < f4.length) = true := decide_eq_true (by omega)
        clear c4
        go_wp2
        go_ret
        exact ⟨false, rfl, (fun h => by cases h), hBQ.out _⟩
      have b4 : decide (0 < (f4.length : Int)) = false := decide_eq_false c4
      have b5 : decide (0 < f4.length) = false := decide_eq_false (by omega)
      by_cases c5 : 0 < (f5.length : Int)
      · have b6 : decide (0 < (f5.length : Int)) = true := decide_eq_true c5
        have b7 : decide (0 < f5.length) = true := decide_eq_true (by omega)
        clear c4 c5
        go_wp2
        go_ret
        exact ⟨false, rfl, (fun h => by cases h), hBQ.out _⟩
      have b6 : decide (0 < (f5.length : Int)) = false := decide_eq_false c5
      have b7 : decide (0 < f5.length) = false := decide_eq_false (by omega)
      by_cases c6 : 500 < (f3.size : Int)
      · have b8 : decide (500 < (f3.size : Int)) = true := decide_eq_true c6
        have b9 : decide (500 < f3.size) = true := decide_eq_true (by omega)
        clear c4 c5 c6
        go_wp2
        go_ret
        exact ⟨false, rfl, (fun h => by cases h), hBQ.out _⟩
      have b8 : decide (500 < (f3.size : Int)) = false := decide_eq_false c6
      have b9 : decide (500 < f3.size) = false := decide_eq_false (by omega)
      obtain ⟨bu, hbu⟩ := utf8_con f3 (by omega)
      have HU := Lib.hid hbu
      have HSZ := Lib.hid (show f3.size ≤ 500 by omega)
      clear c4 c5 c6 hbu
      go_wp2_with fail
      refine (HU.out _).mono ?_
      rintro e w1 ⟨rfl, hb1⟩
      have hx1 := blk_below (heap_alloc_new wr (.cells #[.int .i64 f0, .int .i64 f1, .float .f64 f2, .string f3, .slice A4 f4.length c4, .slice A5 f5.length c5] 36)) hb1
      have HB1 := Lib.hid ((hBQ.out _).trans (hb1.mono (by have := HB0.out.size; simp; omega)))
      obtain ⟨p0, p1, p2, p3, p4, p5⟩ := cells6 hx1
      clear hb1 hx1 q0 q1 q2 q3 q4 q5 hBQ HU b0 b1 b2 b3 b4 b5 b6 b7 b8 b9 b10
      cases bu with
      | false =>
        go_wp2
        go_ret
        exact ⟨false, rfl, (fun h => by cases h), HB1.out⟩
      | true =>
        have HRC := HCS.out
        by_cases e5 : f3.toList = []
        · have n1 : (f3.toList != []) = false := by simp [e5]
          have n2 : (f3.toList == []) = true := by simp [e5]
          have n3 : f3.toList.isEmpty = true := by simp [e5]
          clear e5
          rcases HRC with rfl | rfl | rfl | rfl | rfl
          all_goals
            by_cases z0 : f1 = 0
            · subst z0
              go_wp2
              first
              | (go_ret; exact ⟨false, rfl, (fun h => by cases h), HB1.out⟩)
              | (go_roundw; (case rel => exact ⟨k + 1, _, _, rfl, rfl, by go_num, by omega, Lib.hid (HGN.out ⟨by simp, HSZ.out⟩), HB1⟩); (case measure => simp [intOf]; omega))
            · have y0 : (f1 == 0) = false := beq_eq_false_iff_ne.2 z0
              have y1 : (f1 != 0) = true := by simp [y0, bne]
              clear z0
              by_cases z1 : f1 = 1
              · subst z1
                go_wp2
                first
                | (go_ret; exact ⟨false, rfl, (fun h => by cases h), HB1.out⟩)
                | (go_roundw; (case rel => exact ⟨k + 1, _, _, rfl, rfl, by go_num, by omega, Lib.hid (HGN.out ⟨by simp, HSZ.out⟩), HB1⟩); (case measure => simp [intOf]; omega))
              · have y2 : (f1 == 1) = false := beq_eq_false_iff_ne.2 z1
                have y3 : (f1 != 1) = true := by simp [y2, bne]
                clear z1
                go_wp2
                first
                | (go_ret; exact ⟨false, rfl, (fun h => by cases h), HB1.out⟩)
                | (go_roundw; (case rel => exact ⟨k + 1, _, _, rfl, rfl, by go_num, by omega, Lib.hid (HGN.out ⟨by simp, HSZ.out⟩), HB1⟩); (case measure => simp [intOf]; omega))
        · have n1 : (f3.toList != []) = true := by simpa using e5
          have n2 : (f3.toList == []) = false := by simpa using e5
          have n3 : f3.toList.isEmpty = false := by simpa using e5
          clear e5
          rcases HRC with rfl | rfl | rfl | rfl | rfl
          all_goals
            by_cases z0 : f1 = 0
            · subst z0
              go_wp2
              first
              | (go_ret; exact ⟨false, rfl, (fun h => by cases h), HB1.out⟩)
              | (go_roundw; (case rel => exact ⟨k + 1, _, _, rfl, rfl, by go_num, by omega, Lib.hid (HGN.out ⟨by simp, HSZ.out⟩), HB1⟩); (case measure => simp [intOf]; omega))
            · have y0 : (f1 == 0) = false := beq_eq_false_iff_ne.2 z0
              have y1 : (f1 != 0) = true := by simp [y0, bne]
              clear z0
              go_wp2
              first
              | (go_ret; exact ⟨false, rfl, (fun h => by cases h), HB1.out⟩)
              | (go_roundw; (case rel => exact ⟨k + 1, _, _, rfl, rfl, by go_num, by omega, Lib.hid (HGN.out ⟨by simp, HSZ.out⟩), HB1⟩); (case measure => simp [intOf]; omega))
    · have hkn : k = N := by omega
      subst hkn
      by_cases c20 : (k : Int) ≤ 20
      · have b0 : decide ((k : Int) ≤ 20) = true := decide_eq_true c20
        have b1 : decide (k ≤ 20) = true := decide_eq_true (by omega)
        have HFIN := Lib.hid (show k ≤ 20 ∧ ∀ x ∈ l, goodV x from ⟨by omega, fun x hx => by
          obtain ⟨j, hj, rfl⟩ := List.getElem_of_mem hx
          have := hG.out j (by rw [HN.out]; exact hj)
          rw [List.getD_eq_getElem?_getD, List.getElem?_eq_getElem hj] at this
          exact this⟩)
        clear c20 hG
        go_wp2
        go_ret
        exact ⟨true, rfl, (fun _ => HFIN.out), hB.out⟩
      · have b0 : decide ((k : Int) ≤ 20) = false := decide_eq_false c20
        have b1 : decide (k ≤ 20) = false := decide_eq_false (by omega)
        clear c20 hG
        go_wp2
        go_ret
        exact ⟨false, rfl, (fun h => by cases h), hB.out⟩
end Go.Proofs.YtgjcejgcljjdhaaGreatDoor.P
