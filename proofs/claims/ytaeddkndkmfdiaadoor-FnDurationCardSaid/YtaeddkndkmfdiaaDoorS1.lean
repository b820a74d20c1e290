/- (time.Duration).String of whole seconds. -/
import Derived.Test.YtaeddkndkmfdiaaDoorPx0
import Derived.Test.YtaeddkndkmfdiaaDoorSh
import Derived.Lib.Hide
import Derived.Lib.ItoaMem
import Derived.Lib.ItoaLen
import Derived.Lib.ParseIntBTie
set_option linter.unusedVariables false
set_option linter.unusedSimpArgs false
namespace Go.Lib
theorem parseM_append (M : Nat) : ∀ (l1 l2 : List UInt8) (acc : Nat), parseUintM M acc (l1 ++ l2) = match parseUintM M acc l1 with | .ok a => parseUintM M a l2 | .syntax => .syntax | .range => .range
  | [], l2, acc => rfl
  | c :: r, l2, acc => by
    rw [List.cons_append, parseUintM, parseUintM]
    by_cases h1 : 48 ≤ c.toNat ∧ c.toNat ≤ 57
    · rw [if_pos h1, if_pos h1]
      by_cases h2 : 1844674407370955162 ≤ acc
      · rw [if_pos h2, if_pos h2]
      · rw [if_neg h2, if_neg h2]
        by_cases h3 : M < acc * 10 + (c.toNat - 48)
        · rw [if_pos h3, if_pos h3]
        · rw [if_neg h3, if_neg h3]
          exact parseM_append M r l2 _
    · rw [if_neg h1, if_neg h1]
theorem digit_nat {d : Nat} (h : d < 10) : (UInt8.ofNat (48 + d)).toNat = 48 + d := by
  rw [UInt8.toNat_ofNat']
  omega
theorem parse_dec (M : Nat) (u : Nat) (hM : u ≤ M) (hb : u < 10000000000) : parseUintM M 0 (decDigits u) = .ok u := by
  induction u using Nat.strongRecOn with
  | ind u ih =>
  rw [decDigits]
  by_cases hk : u < 10
  · rw [dif_pos hk, parseUintM, digit_nat hk, if_pos (by omega), if_neg (by omega), if_neg (by omega), parseUintM]
    congr 1
    omega
  · rw [dif_neg hk, parseM_append, ih (u / 10) (by omega) (by omega) (by omega)]
    simp only
    rw [parseUintM, digit_nat (by omega), if_pos (by omega), if_neg (by omega), if_neg (by omega), parseUintM]
    congr 1
    omega
theorem dec_head (u : Nat) : ∃ c r, decDigits u = c :: r ∧ 48 ≤ c.toNat ∧ c.toNat ≤ 57 := by
  induction u using Nat.strongRecOn with
  | ind u ih =>
  rw [decDigits]
  by_cases hk : u < 10
  · rw [dif_pos hk]
    exact ⟨_, [], rfl, by rw [digit_nat hk]; omega, by rw [digit_nat hk]; omega⟩
  · rw [dif_neg hk]
    obtain ⟨c, r, h, h1⟩ := ih (u / 10) (by omega)
    rw [h]
    exact ⟨c, _, rfl, h1⟩
theorem parse_itoa (u : Nat) (hb : u < 10000000000) : parseIntB 64 (decDigits u) = .ok (u : Int) := by
  obtain ⟨c, r, h, h1, h2⟩ := dec_head u
  have hp : parseUintB 64 (decDigits u) = .ok u := by
    unfold parseUintB
    rw [if_neg (by rw [h]; simp), parse_dec _ u (by omega) hb]
  rw [h] at hp ⊢
  simp only [parseIntB]
  rw [if_neg (by omega), hp]
  have e : (2 : Nat) ^ (64 - 1) = 9223372036854775808 := by decide
  have hc : ¬ c.toNat = 45 := by omega
  simp only [e, hc, not_false_eq_true, true_and, false_and, if_false]
  rw [if_neg (by omega)]
end Go.Lib
namespace Go.Proofs.YtaeddkndkmfdiaaDoor.P
open Go.RowKit Go.Proofs.YtaeddkndkmfdiaaDoorW.PrintWords Go.Proofs.YtaeddkndkmfdiaaDoorW.PrintLast Go.Proofs.YtaeddkndkmfdiaaDoorW.PrintMore

/-- The text l lies at the end of the array of 32 bytes in block g, from o on. -/
def TailAt (w : World) (g o : Nat) (l : List UInt8) : Prop :=
  o + l.length = 32 ∧ ∃ cur : Array Value, w.heap[g]? = some (.cells cur 159 (0, 0)) ∧ cur.size = 32 ∧ ∀ j b, l[j]? = some b → cur[o + j]? = some (.int .u8 (b.toNat : Int))
theorem TailAt.lt {w : World} {g o : Nat} {l : List UInt8} (h : TailAt w g o l) : g < w.heap.size := by
  obtain ⟨_, cur, h1, _⟩ := h
  exact (Array.getElem?_eq_some_iff.1 h1).1
theorem TailAt.cell {w : World} {g o : Nat} {l : List UInt8} (h : TailAt w g o l) (j : Nat) (hj : j < 32) : ∃ v, w.cell? ⟨g, j, none⟩ = some v ∧ w.frozen? ⟨g, j, none⟩ = false := by
  obtain ⟨_, cur, h1, h2, _⟩ := h
  refine ⟨cur[j]'(by omega), ?_, by simp [World.frozen?, h1]⟩
  rw [blk_cell h1 j]
  simp [h2, hj]
theorem TailAt.put {w : World} {g o : Nat} {l : List UInt8} (h : TailAt w g (o + 1) l) (b : UInt8) : TailAt (w.setCell ⟨g, o, none⟩ (.int .u8 (b.toNat : Int))) g o (b :: l) := by
  obtain ⟨h0, cur, h1, h2, h3⟩ := h
  refine ⟨by simp; omega, cur.setIfInBounds o (.int .u8 (b.toNat : Int)), blk_set h1 o _, by simp [h2], fun j c hj => ?_⟩
  cases j with
  | zero =>
    simp at hj
    subst hj
    rw [Nat.add_zero, Array.getElem?_setIfInBounds]
    simp [h2]
    omega
  | succ j =>
    have h4 := h3 j c (by simpa using hj)
    rw [Array.getElem?_setIfInBounds, if_neg (by omega)]
    rw [← h4]
    congr 1
    omega
theorem TailAt.keep {w w' : World} {g o : Nat} {l : List UInt8} (h : TailAt w g o l) (hb : w'.heap[g]? = w.heap[g]?) : TailAt w' g o l := by
  obtain ⟨h0, cur, h1, h2⟩ := h
  exact ⟨h0, cur, by rw [hb, h1], h2⟩
/-- The digits that are still to come. -/
def digs (k : Nat) : List UInt8 := if k = 0 then [] else Lib.decDigits k
theorem digs_step {k : Nat} (h : 0 < k) : digs k = digs (k / 10) ++ [UInt8.ofNat (48 + k % 10)] := by
  unfold digs
  rw [if_neg (by omega), Lib.decDigits]
  by_cases hk : k < 10
  · rw [dif_pos hk, if_pos (by omega), List.nil_append, Nat.mod_eq_of_lt hk]
  · rw [dif_neg hk, if_neg (by omega)]
theorem digs_len {k : Nat} (h : 0 < k) : (digs k).length = (digs (k / 10)).length + 1 := by rw [digs_step h]; simp
set_option maxHeartbeats 1600000 in
set_option maxRecDepth 100000 in
theorem fmtInt_call (B g o v : Nat) (l : List UInt8) (w0 w : World) (hT : TailAt w g o l) (hBg : B ≤ g) (hB : Below B w0 w) (hv : v < 18446744073709551616) (hd : (Lib.decDigits v).length ≤ o) :
    Calls Tryd.prog 159 #[.slice (some ⟨g, 0, none⟩) o 32, .int .u64 v] w fun e w' => ∃ o', e = .returned (.int .i64 (o' : Nat)) ∧ TailAt w' g o' (Lib.decDigits v ++ l) ∧ Below B w0 w' ∧ w'.heap.size = w.heap.size := by
  have ho : o ≤ 32 := by have := hT.1; omega
  by_cases hz : v = 0
  · subst hz
    have h1 : (Lib.decDigits 0) = [48] := by rw [Lib.decDigits_one (by decide)]; rfl
    rw [h1] at hd ⊢
    obtain ⟨p, rfl⟩ : ∃ p, o = p + 1 := ⟨o - 1, by simp at hd; omega⟩
    obtain ⟨c, q0, z0⟩ := hT.cell p (by omega)
    have HT := Lib.hid (hT.put 48)
    have HB := Lib.hid (hB.setCell (p := ⟨g, p, none⟩) hBg (.int .u8 48))
    clear hT hB hd h1
    go_enter Tryd.func159, Tryd.ntmps159
    go_wp2
    go_ret
    exact ⟨p, rfl, HT.out, HB.out, by simp⟩
  · obtain ⟨D, hD⟩ : ∃ D, D = Lib.decDigits v := ⟨_, rfl⟩
    have HDV := Lib.hid (show digs v = D by rw [hD]; unfold digs; rw [if_neg hz])
    rw [← hD] at hd ⊢
    have HD := Lib.hid hd
    have HT := Lib.hid (show ∃ t, TailAt w g o (t ++ l) ∧ digs v ++ t = D ∧ (digs v).length ≤ o from ⟨[], hT, by rw [HDV.out]; simp, by rw [HDV.out]; exact hd⟩)
    have HB := Lib.hid hB
    clear hT hB hD
    have hz0 : ((v : Int) == 0) = false := beq_eq_false_iff_ne.2 (by omega)
    go_enter Tryd.func159, Tryd.ntmps159
    go_wp2
    go_loopw [1, 5] (fun a b wr => ∃ (k p : Nat), a = .int .u64 k ∧ b = .int .i64 p ∧ k < 18446744073709551616 ∧ p ≤ o ∧ Hid (∃ t, TailAt wr g p (t ++ l) ∧ digs k ++ t = D ∧ (digs k).length ≤ p) ∧ Hid (Below B w0 wr) ∧ Hid (wr.heap.size = w.heap.size)) (fun a _ _ => (intOf a).toNat)
    case atStart => exact ⟨v, o, rfl, rfl, hv, Nat.le_refl _, HT, HB, Lib.hid rfl⟩
    case round =>
      clear HT HB hz hv hd HD
      obtain ⟨k, p, rfl, rfl, hk, hp, hT, hB, hS⟩ := hrel
      by_cases ck : 0 < k
      · obtain ⟨t, h1, h2, h3⟩ := hT.out
        have hL := digs_len ck
        obtain ⟨q, rfl⟩ : ∃ q, p = q + 1 := ⟨p - 1, by omega⟩
        obtain ⟨c, q0, z0⟩ := h1.cell q (by omega)
        have h4 := h1.put (UInt8.ofNat (48 + k % 10))
        rw [Lib.digit_nat (by omega), show ((48 + k % 10 : Nat) : Int) = (k : Int) % 10 + 48 by omega] at h4
        have HT2 := Lib.hid (show ∃ t, TailAt (wr.setCell ⟨g, q, none⟩ (.int .u8 ((k : Int) % 10 + 48))) g q (t ++ l) ∧ digs (k / 10) ++ t = D ∧ (digs (k / 10)).length ≤ q from ⟨_, h4, by rw [← h2, digs_step ck, List.append_assoc], by omega⟩)
        have HB2 := Lib.hid (hB.out.setCell (p := ⟨g, q, none⟩) hBg (.int .u8 ((k : Int) % 10 + 48)))
        have HS2 := Lib.hid (show (wr.setCell ⟨g, q, none⟩ (.int .u8 ((k : Int) % 10 + 48))).heap.size = w.heap.size by rw [← hS.out]; simp)
        clear h1 h2 h3 h4 hL hT hB hS
        go_wp2
        go_roundw
        case rel => exact ⟨k / 10, q, by go_num, by go_num, by omega, by omega, HT2, HB2, HS2⟩
        case measure => simp [intOf]; omega
      · obtain rfl : k = 0 := by omega
        obtain ⟨t, h1, h2, h3⟩ := hT.out
        have h4 : t = D := by rw [← h2]; rfl
        subst h4
        clear h2 h3 hT
        have HT2 := Lib.hid h1
        go_wp2
        go_ret
        exact ⟨p, rfl, HT2.out, hB.out, hS.out⟩
set_option maxHeartbeats 1600000 in
set_option maxRecDepth 100000 in
theorem fmtFrac_call (g o n : Nat) (w : World) (ho : o ≤ 32) (hn : n ≤ 9000000000) :
    Calls Tryd.prog 158 #[.slice (some ⟨g, 0, none⟩) o 32, .int .u64 ((n * 1000000000 : Nat) : Int), .int .i64 9] w fun e w' => e = .returned (.tuple #[.int .i64 o, .int .u64 n]) ∧ w = w' := by
  go_enter Tryd.func158, Tryd.ntmps158
  go_wp2
  go_loop [1, 8, 9, 10, 11] (fun a b c i d => ∃ (k m : Nat) (dv : Value), a = .int .u64 m ∧ b = .int .i64 o ∧ c = .bool false ∧ i = .int .i64 k ∧ dv = d ∧ k ≤ 9 ∧ m = n * 10 ^ (9 - k)) (fun _ _ _ i _ => 9 - (intOf i).toNat)
  case atStart => exact ⟨0, _, _, rfl, rfl, rfl, rfl, rfl, by decide, rfl⟩
  case round =>
    obtain ⟨k, m, dv, rfl, rfl, rfl, rfl, rfl, hk, hm⟩ := hrel
    by_cases ck : k < 9
    · have hm2 : m = n * 10 ^ (9 - (k + 1)) * 10 := by
        rw [hm, Nat.mul_assoc, ← Nat.pow_succ]
        congr 2
        omega
      have hb : n * 10 ^ (9 - (k + 1)) ≤ 9000000000 * 10 ^ 9 := Nat.mul_le_mul hn (Nat.pow_le_pow_right (by decide) (by omega))
      obtain ⟨q, hq⟩ : ∃ q, q = n * 10 ^ (9 - (k + 1)) := ⟨_, rfl⟩
      rw [← hq] at hm2 hb
      have HQ := Lib.hid hq
      have e0 : ((m : Int) % 10 == 0) = true := beq_iff_eq.2 (by omega)
      have e1 : ((m : Int) % 10) = 0 := by omega
      have e2 : ((m : Int) / 10) = (q : Int) := by omega
      clear hm hq
      go_wp2
      go_round
      case rel => exact ⟨k + 1, q, _, rfl, rfl, rfl, by go_num, rfl, by omega, HQ.out⟩
      case measure => simp [intOf]; omega
    · obtain rfl : k = 9 := by omega
      rw [show 9 - 9 = 0 from rfl, Nat.pow_zero, Nat.mul_one] at hm
      subst hm
      go_wp2
      go_ret2
      exact ⟨rfl, rfl⟩
theorem fmtInt_at (vi : Int) (B g o v : Nat) (l : List UInt8) (w0 w : World) (hvi : vi = (v : Int)) (hT : TailAt w g o l) (hBg : B ≤ g) (hB : Below B w0 w) (hv : v < 18446744073709551616) (hd : (Lib.decDigits v).length ≤ o) :
    Calls Tryd.prog 159 #[.slice (some ⟨g, 0, none⟩) o 32, .int .u64 vi] w fun e w' => ∃ o', e = .returned (.int .i64 (o' : Nat)) ∧ TailAt w' g o' (Lib.decDigits v ++ l) ∧ Below B w0 w' ∧ w'.heap.size = w.heap.size := by
  subst hvi
  exact fmtInt_call B g o v l w0 w hT hBg hB hv hd
theorem dec_two {v : Nat} (h : v < 60) : (Lib.decDigits v).length ≤ 2 := by
  by_cases h1 : v < 10
  · rw [Lib.decDigits_one h1]
    show 1 ≤ 2
    decide
  · rw [Lib.decDigits_two h1 (by omega)]
    exact Nat.le_refl _
theorem dec_more {v : Nat} (h : v ≤ 9000000000) : (Lib.decDigits v).length ≤ 21 := by
  have := Lib.itoa_length_le (v : Int) (by omega) (by omega)
  rwa [Lib.itoa_nonneg] at this
/-- The text of s seconds. -/
def secT (s : Nat) : List UInt8 := (if 3600 ≤ s then Lib.decDigits (s / 3600) ++ [104] else []) ++ ((if 60 ≤ s then Lib.decDigits (s / 60 % 60) ++ [109] else []) ++ (Lib.decDigits (s % 60) ++ [115]))
set_option maxHeartbeats 1600000 in
set_option maxRecDepth 100000 in
theorem format_call (B g s : Nat) (w0 w : World) (hs : s ≤ 9000000000) (hT : TailAt w g 32 []) (hBg : B ≤ g) (hB : Below B w0 w) :
    Calls Tryd.prog 135 #[.int .i64 ((s : Int) * 1000000000), .pointer (some ⟨g, 0, none⟩)] w fun e w' => ∃ o', e = .returned (.int .i64 (o' : Nat)) ∧ TailAt w' g o' (secT s) ∧ Below B w0 w' ∧ w'.heap.size = w.heap.size := by
  have hneg : decide ((s : Int) * 1000000000 < 0) = false := decide_eq_false (by omega)
  obtain ⟨c31, q31, z31⟩ := hT.cell 31 (by decide)
  have h31 := hT.put (o := 31) 115
  by_cases h0 : s = 0
  · subst h0
    obtain ⟨c30, q30, z30⟩ := hT.cell 30 (by decide)
    have HT := Lib.hid (h31.put (o := 30) 48)
    have HX := Lib.hid (show secT 0 = [48, 115] by decide +kernel)
    have HB := Lib.hid ((hB.setCell (p := ⟨g, 31, none⟩) hBg (.int .u8 115)).setCell (p := ⟨g, 30, none⟩) hBg (.int .u8 48))
    clear hT hB h31 hneg
    go_enter Tryd.func135, Tryd.ntmps135
    go_wp2
    go_ret
    exact ⟨30, rfl, by rw [HX.out]; exact HT.out, HB.out, by simp⟩
  · have hge : decide ((s : Int) * 1000000000 < 1000000000) = false := decide_eq_false (by omega)
    have hmax : (s : Int) * 1000000000 < 18446744073709551616 := by omega
    have hpos : 0 ≤ (s : Int) * 1000000000 := by omega
    have HT1 := Lib.hid (show TailAt (w.setCell ⟨g, 31, none⟩ (.int .u8 115)) g 31 [115] from h31)
    have HB1 := Lib.hid (hB.setCell (p := ⟨g, 31, none⟩) hBg (.int .u8 115))
    have HF := Lib.hid (fun W => fmtFrac_call g 31 s W (by decide) hs)
    rw [show ((s * 1000000000 : Nat) : Int) = (s : Int) * 1000000000 by omega] at HF
    clear hT hB h31
    have hal : Tryd.prog.arrayLen 159 = 32 := by kernel_rfl
    have HS := Lib.hid (show (w.setCell ⟨g, 31, none⟩ (.int .u8 115)).heap.size = w.heap.size by simp)
    go_enter Tryd.func135, Tryd.ntmps135
    go_wp2_with fail
    refine (HF.out _).mono ?_
    rintro e w1 ⟨rfl, rfl⟩
    have HI := Lib.hid (fmtInt_at ((s : Int) % 60) B g 31 (s % 60) [115] w0 _ (by omega) HT1.out hBg HB1.out (by omega) (by have := dec_two (v := s % 60) (by omega); omega))
    clear HF HT1 HB1
    go_wp2_with fail
    refine HI.out.mono ?_
    rintro e w2 ⟨o2, rfl, ht2, hb2, hs2⟩
    have HT2 := Lib.hid ht2
    have HB2 := Lib.hid hb2
    have HS2 := Lib.hid (hs2.trans HS.out)
    have l2 := dec_two (v := s % 60) (by omega)
    have e2 : o2 + (Lib.decDigits (s % 60)).length = 31 := by have := ht2.1; simp at this; omega
    clear ht2 hb2 hs2 HI HS
    by_cases h60 : 60 ≤ s
    · obtain ⟨p, rfl⟩ : ∃ p, o2 = p + 1 := ⟨o2 - 1, by omega⟩
      obtain ⟨c2, q2, z2⟩ := HT2.out.cell p (by omega)
      have HT3 := Lib.hid (show TailAt (w2.setCell ⟨g, p, none⟩ (.int .u8 109)) g p (109 :: (Lib.decDigits (s % 60) ++ [115])) from HT2.out.put 109)
      have HB3 := Lib.hid (HB2.out.setCell (p := ⟨g, p, none⟩) hBg (.int .u8 109))
      have HS3 := Lib.hid (show (w2.setCell ⟨g, p, none⟩ (.int .u8 109)).heap.size = w.heap.size by rw [← HS2.out]; simp)
      have hgt : decide (0 < (s : Int) / 60) = true := decide_eq_true (by omega)
      have p0 : (p : Int) ≤ 32 := by omega
      have HI := Lib.hid (fmtInt_at ((s : Int) / 60 % 60) B g p (s / 60 % 60) _ w0 _ (by omega) HT3.out hBg HB3.out (by omega) (by have := dec_two (v := s / 60 % 60) (by omega); omega))
      clear HT2 HB2 HS2 HT3 HB3
      go_wp2_with fail
      refine HI.out.mono ?_
      rintro e w4 ⟨o4, rfl, ht4, hb4, hs4⟩
      have HT4 := Lib.hid ht4
      have HB4 := Lib.hid hb4
      have HS4 := Lib.hid (hs4.trans HS3.out)
      have l4 := dec_two (v := s / 60 % 60) (by omega)
      have e4 : o4 + (Lib.decDigits (s / 60 % 60)).length = p := by have := ht4.1; simp at this; omega
      clear ht4 hb4 hs4 HI HS3 q2 z2
      by_cases h3600 : 3600 ≤ s
      · obtain ⟨r, rfl⟩ : ∃ r, o4 = r + 1 := ⟨o4 - 1, by omega⟩
        obtain ⟨c4, q4, z4⟩ := HT4.out.cell r (by omega)
        have HT5 := Lib.hid (HT4.out.put 104)
        have HB5 := Lib.hid (HB4.out.setCell (p := ⟨g, r, none⟩) hBg (.int .u8 104))
        have HS5 := Lib.hid (show (w4.setCell ⟨g, r, none⟩ (.int .u8 104)).heap.size = w.heap.size by rw [← HS4.out]; simp)
        have hgt2 : decide (0 < (s : Int) / 60 / 60) = true := decide_eq_true (by omega)
        have r0 : (r : Int) ≤ 32 := by omega
        have HI := Lib.hid (fmtInt_at ((s : Int) / 60 / 60) B g r (s / 3600) _ w0 _ (by omega) HT5.out hBg HB5.out (by omega) (by have := dec_more (v := s / 3600) (by omega); omega))
        clear HT4 HB4 HS4 HT5 HB5
        go_wp2_with fail
        refine HI.out.mono ?_
        rintro e w6 ⟨o6, rfl, ht6, hb6, hs6⟩
        have HX := Lib.hid (show secT s = Lib.decDigits (s / 3600) ++ (104 :: (Lib.decDigits (s / 60 % 60) ++ (109 :: (Lib.decDigits (s % 60) ++ [115])))) by unfold secT; rw [if_pos h3600, if_pos h60]; simp)
        have HT6 := Lib.hid ht6
        have HB6 := Lib.hid hb6
        have HS6 := Lib.hid (hs6.trans HS5.out)
        clear ht6 hb6 hs6 HI HS5 q4 z4
        go_wp2
        go_ret
        exact ⟨o6, rfl, by rw [HX.out]; exact HT6.out, HB6.out, HS6.out⟩
      · have hgt2 : decide (0 < (s : Int) / 60 / 60) = false := decide_eq_false (by omega)
        have HX := Lib.hid (show secT s = Lib.decDigits (s / 60 % 60) ++ (109 :: (Lib.decDigits (s % 60) ++ [115])) by unfold secT; rw [if_neg h3600, if_pos h60]; simp)
        go_wp2
        go_ret
        exact ⟨o4, rfl, by rw [HX.out]; exact HT4.out, HB4.out, HS4.out⟩
    · have hgt : decide (0 < (s : Int) / 60) = false := decide_eq_false (by omega)
      have HX := Lib.hid (show secT s = Lib.decDigits (s % 60) ++ [115] by unfold secT; rw [if_neg (by omega), if_neg (by omega)]; rfl)
      go_wp2
      go_ret
      exact ⟨o2, rfl, by rw [HX.out]; exact HT2.out, HB2.out, HS2.out⟩
set_option maxHeartbeats 1600000 in
set_option maxRecDepth 100000 in
theorem string_call (s : Nat) (w : World) (hs : s ≤ 9000000000) :
    Calls Tryd.prog 113 #[.int .i64 ((s : Int) * 1000000000)] w fun e w' => e = .returned (.string ⟨(secT s).toArray⟩) ∧ Below w.heap.size w w' := by
  have hal : Tryd.prog.arrayLen 159 = 32 := by kernel_rfl
  have hz : TailAt (w.alloc (.cells (Array.replicate 32 (.int .u8 0)) 159)) w.heap.size 32 [] := ⟨rfl, _, heap_alloc_new w _, by simp, fun j b hj => by simp at hj⟩
  have HF := Lib.hid (format_call w.heap.size w.heap.size s w _ hs hz (Nat.le_refl _) ((Below.refl w.heap.size w).alloc (Nat.le_refl _) _))
  have HSZ := Lib.hid (show w.heap.size < (w.alloc (.cells (Array.replicate 32 (.int .u8 0)) 159)).heap.size by simp)
  obtain ⟨txt, htx⟩ : ∃ txt, txt = secT s := ⟨_, rfl⟩
  have hpos : 0 < txt.length := by rw [htx]; unfold secT; simp only [List.length_append, List.length_cons]; omega
  rw [← htx] at HF ⊢
  clear hz htx
  go_enter Tryd.func113, Tryd.ntmps113
  go_wp2_with fail
  refine HF.out.mono ?_
  rintro e w1 ⟨o, rfl, ht, hb, hs1⟩
  have hlen := ht.1
  have hcv : (convert 72 9 (.slice (some ⟨w.heap.size, o, none⟩) txt.length txt.length)).run Tryd.prog w1 = .ok (.string ⟨txt.toArray⟩) w1 := run_convert_bytes_back (P := Tryd.prog) w1 72 9 5 ⟨w.heap.size, o, none⟩ txt.length txt Tryd.underlying72 Tryd.underlying5 Tryd.underlying9 (fun j hj => by
    obtain ⟨_, cur, h1, h2, h3⟩ := ht
    have h4 := h3 j txt[j] (by simp [hj])
    rw [Addr.add_lit, blk_cell h1, h4])
  have ho : (o : Int) ≤ 32 := by omega
  obtain ⟨n, hn⟩ : ∃ n, n = txt.length := ⟨_, rfl⟩
  rw [← hn] at hcv hlen hpos
  have hsub : 32 - o = n := by omega
  have HB := Lib.hid hb
  clear ht hb hs1 HF HSZ hn
  go_wp2
  go_ret
  exact ⟨rfl, HB.out⟩
end Go.Proofs.YtaeddkndkmfdiaaDoor.P
