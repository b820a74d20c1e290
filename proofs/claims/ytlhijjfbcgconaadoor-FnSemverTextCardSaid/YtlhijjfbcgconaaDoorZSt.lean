/- Texts joined: St1, St2, St3, St4, St5, St6, St7, St8. -/
import Derived.Test.YtlhijjfbcgconaaDoorZSv
import Derived.Lib.MapLaws
import Derived.Lib.QuoteLoop
import Derived.Test.YtlhijjfbcgconaaDoorZPx19
import Derived.Test.YtlhijjfbcgconaaDoorZSo6
import Derived.Test.YtlhijjfbcgconaaDoorZSo5
import Derived.Test.YtlhijjfbcgconaaDoorZSnM

/- Versions by the letter: texts of any bytes cut at points, and the package's tests of what stands between. -/
set_option linter.unusedVariables false
set_option linter.unusedSimpArgs false
namespace Go.Proofs.YtlhijjfbcgconaaDoor.P
open Go.RowKit Go.Proofs.YtlhijjfbcgconaaDoorW.PrintWords Go.Proofs.YtlhijjfbcgconaaDoorW.PrintLast Go.Proofs.YtlhijjfbcgconaaDoorW.PrintMore

theorem decode_ge (s : ByteArray) (k : Nat) (h : k < s.size) (h0 : 128 ≤ (s[k]'h).toNat) : 128 ≤ (Utf8.decode s k).1 ∧ ((Utf8.decode s k).1 < 55296 ∨ (57343 < (Utf8.decode s k).1 ∧ (Utf8.decode s k).1 ≤ 1114111)) := by
  have e : s.get! k = s[k]'h := by
    simp [ByteArray.get!, getElem!_pos, h]
    rfl
  rw [Lib.decode_at, e]
  refine ⟨?_, Lib.decodeN_valid _ _ _ _ _ (s[k]'h).toNat_lt⟩
  rcases Lib.decodeN_shape (s.size - k) (s[k]'h).toNat (s.get! (k + 1)).toNat (s.get! (k + 2)).toNat (s.get! (k + 3)).toNat with ⟨c, q⟩ | ⟨_, _, _, c, q⟩ | ⟨_, _, _, _, c, _, q⟩ | ⟨_, _, _, _, _, c, _, q⟩ | q <;> rw [q] <;> dsimp only <;> omega
set_option maxHeartbeats 1600000 in
set_option maxRecDepth 100000 in
theorem idxRune_no (p : ByteArray) (ha : ascii p) (hs : p.size ≤ 500) (r : Int) (r0 : 128 ≤ r) (r1 : r < 55296 ∨ (57343 < r ∧ r ≤ 1114111)) (w : World) :
    Calls Tryd.prog 81 #[.string p, .int .i32 r] w fun e w' => e = .returned (.int .i64 (-1)) ∧ Below w.heap.size w w' := by
  have HA := Lib.hid ha
  have HB := Lib.hid (fun o => (Below.refl w.heap.size w).alloc (Nat.le_refl _) o)
  have HR := Lib.hid r0
  clear ha
  go_enter Tryd.func81, Tryd.ntmps81
  by_cases c1 : r = 65533
  · subst c1
    have e1 : ((65533 : Int) == 65533) = true := rfl
    have e2 : ((65533 : Int) != 65533) = false := rfl
    clear r0 r1
    go_wp2
    go_loopw [5, 6] (fun y z wr => ∃ (k : Nat) (yv zv : Value), wr = w.iter p k ∧ yv = y ∧ zv = z ∧ k ≤ p.size) (fun _ _ wr => p.size - wr.iterPos w.heap.size)
    case atStart => exact ⟨0, _, _, rfl, rfl, rfl, Nat.zero_le _⟩
    case round =>
      obtain ⟨k, yv, zv, rfl, rfl, rfl, hk⟩ := hrel
      by_cases ck : k < p.size
      · have hnx : ∀ ty, (Instr.next (.pointer (some ⟨w.heap.size, 0, none⟩)) true ty).run Tryd.prog (w.iter p k) = _ := fun ty => run_next_any w p k ty ck
        have hlt : (p[k]'ck).toNat < 128 := by have := HA.out k ck; rw [bt_nat p k ck] at this; omega
        rw [decode_ascii p k ck hlt] at hnx
        have hnr : (((((p[k]'ck).toNat : Nat) : Int)) == 65533) = false := beq_eq_false_iff_ne.2 (by have := HR.out; omega)
        clear hlt
        go_wp2
        go_roundw
        case rel => exact ⟨k + 1, _, _, rfl, rfl, rfl, by omega⟩
        case measure => simp; omega
      · obtain rfl : k = p.size := by omega
        have hnx := fun ty => run_next_end (P := Tryd.prog) w p p.size ty (Nat.lt_irrefl _)
        go_wp2
        go_ret
        exact ⟨rfl, HB.out _⟩
  · have e1 : (r == 65533) = false := beq_eq_false_iff_ne.2 c1
    have e2 : (r != 65533) = true := bne_iff_ne.2 c1
    have e3 : decide (r < 0) = false := decide_eq_false (by omega)
    have e4 : decide (1114111 < r) = false := decide_eq_false (by omega)
    by_cases c2 : 55296 ≤ r
    · have e5 : decide (55296 ≤ r) = true := decide_eq_true c2
      have e6 : decide (r ≤ 57343) = false := decide_eq_false (by omega)
      clear r0 r1 c1 c2
      go_wp2
      go_loopw [5, 6] (fun y z wr => ∃ (k : Nat) (yv zv : Value), wr = w.iter p k ∧ yv = y ∧ zv = z ∧ k ≤ p.size) (fun _ _ wr => p.size - wr.iterPos w.heap.size)
      case atStart => exact ⟨0, _, _, rfl, rfl, rfl, Nat.zero_le _⟩
      case round =>
        obtain ⟨k, yv, zv, rfl, rfl, rfl, hk⟩ := hrel
        by_cases ck : k < p.size
        · have hnx : ∀ ty, (Instr.next (.pointer (some ⟨w.heap.size, 0, none⟩)) true ty).run Tryd.prog (w.iter p k) = _ := fun ty => run_next_any w p k ty ck
          have hlt : (p[k]'ck).toNat < 128 := by have := HA.out k ck; rw [bt_nat p k ck] at this; omega
          rw [decode_ascii p k ck hlt] at hnx
          have hnr : (((((p[k]'ck).toNat : Nat) : Int)) == r) = false := beq_eq_false_iff_ne.2 (by have := HR.out; omega)
          clear hlt
          go_wp2
          go_roundw
          case rel => exact ⟨k + 1, _, _, rfl, rfl, rfl, by omega⟩
          case measure => simp; omega
        · obtain rfl : k = p.size := by omega
          have hnx := fun ty => run_next_end (P := Tryd.prog) w p p.size ty (Nat.lt_irrefl _)
          go_wp2
          go_ret
          exact ⟨rfl, HB.out _⟩
    · have e5 : decide (55296 ≤ r) = false := decide_eq_false c2
      clear r0 r1 c1 c2
      go_wp2
      go_loopw [5, 6] (fun y z wr => ∃ (k : Nat) (yv zv : Value), wr = w.iter p k ∧ yv = y ∧ zv = z ∧ k ≤ p.size) (fun _ _ wr => p.size - wr.iterPos w.heap.size)
      case atStart => exact ⟨0, _, _, rfl, rfl, rfl, Nat.zero_le _⟩
      case round =>
        obtain ⟨k, yv, zv, rfl, rfl, rfl, hk⟩ := hrel
        by_cases ck : k < p.size
        · have hnx : ∀ ty, (Instr.next (.pointer (some ⟨w.heap.size, 0, none⟩)) true ty).run Tryd.prog (w.iter p k) = _ := fun ty => run_next_any w p k ty ck
          have hlt : (p[k]'ck).toNat < 128 := by have := HA.out k ck; rw [bt_nat p k ck] at this; omega
          rw [decode_ascii p k ck hlt] at hnx
          have hnr : (((((p[k]'ck).toNat : Nat) : Int)) == r) = false := beq_eq_false_iff_ne.2 (by have := HR.out; omega)
          clear hlt
          go_wp2
          go_roundw
          case rel => exact ⟨k + 1, _, _, rfl, rfl, rfl, by omega⟩
          case measure => simp; omega
        · obtain rfl : k = p.size := by omega
          have hnx := fun ty => run_next_end (P := Tryd.prog) w p p.size ty (Nat.lt_irrefl _)
          go_wp2
          go_ret
          exact ⟨rfl, HB.out _⟩
set_option maxHeartbeats 1600000 in
set_option maxRecDepth 100000 in
theorem hasRune_no (p : ByteArray) (ha : ascii p) (hs : p.size ≤ 500) (r : Int) (r0 : 128 ≤ r) (r1 : r < 55296 ∨ (57343 < r ∧ r ≤ 1114111)) (w : World) :
    Calls Tryd.prog 71 #[.string p, .int .i32 r] w fun e w' => e = .returned (.bool false) ∧ Below w.heap.size w w' := by
  have HI := Lib.hid (idxRune_no p ha hs r r0 r1 w)
  clear ha hs r0 r1
  go_enter Tryd.func71, Tryd.ntmps71
  go_wp2_with fail
  refine HI.out.mono ?_
  rintro e w1 ⟨rfl, hb1⟩
  have HB1 := Lib.hid hb1
  clear hb1 HI
  go_wp2
  go_ret
  exact ⟨rfl, HB1.out⟩
set_option maxHeartbeats 1600000 in
set_option maxRecDepth 100000 in
theorem only_any (t p : ByteArray) (htz : t.size ≤ 500) (ha : ascii p) (hs : p.size ≤ 500) (w : World) :
    Calls Tryd.prog 58 #[.string t, .string p] w fun e w' => e = .returned (.bool (decide (∀ x ∈ nums8 t, x ∈ nums8 p))) ∧ Below w.heap.size w w' := by
  have HC := Lib.hid (fun r r0 r1 W => hasRune_call p ha hs r r0 r1 W)
  have HB0 := Lib.hid (fun o => (Below.refl w.heap.size w).alloc (Nat.le_refl _) o)
  have HLN := Lib.hid (nums8_length t)
  have HN := Lib.hid (fun r r0 r1 W => hasRune_no p ha hs r r0 r1 W)
  have HAP := Lib.hid ha
  clear ha hs
  go_enter Tryd.func58, Tryd.ntmps58
  go_wp2
  go_loopw [6] (fun z wr => ∃ (k : Nat) (zv : Value), zv = z ∧ k ≤ t.size ∧ Hid (wr.heap[w.heap.size]? = some (.stringIter t k)) ∧ Hid (w.heap.size + 1 ≤ wr.heap.size) ∧ Hid (Below w.heap.size w wr) ∧ Hid (∀ x ∈ (nums8 t).take k, x ∈ nums8 p)) (fun _ wr => t.size - wr.iterPos w.heap.size)
  case atStart => exact ⟨0, _, rfl, Nat.zero_le _, Lib.hid (heap_alloc_new w (.stringIter t 0)), Lib.hid (by simp [World.iter]), HB0.out _, Lib.hid (fun x hx => by simp at hx)⟩
  case round =>
    obtain ⟨k, zv, rfl, hk, hI, hS, hB, hX⟩ := hrel
    by_cases ck : k < t.size
    · have hnx : ∀ ty, (Instr.next (.pointer (some ⟨w.heap.size, 0, none⟩)) true ty).run Tryd.prog wr = _ := fun ty => Lib.run_next_any_at wr w.heap.size t k ty hI.out ck
      by_cases hlt : (t[k]'ck).toNat < 128
      · rw [decode_ascii t k ck hlt] at hnx
        obtain ⟨W2, hW2⟩ : ∃ W2, W2 = wr.iterAt w.heap.size t (k + 1) := ⟨_, rfl⟩
        have hI2 := Lib.hid (show W2.heap[w.heap.size]? = some (.stringIter t (k + 1)) by rw [hW2]; exact Lib.iterAt_heap _ _ _ _ _ hI.out)
        have hS2 := Lib.hid (show w.heap.size + 1 ≤ W2.heap.size by rw [hW2, Lib.iterAt_size]; exact hS.out)
        have hB2 := Lib.hid (show Below w.heap.size w W2 by rw [hW2]; exact Lib.below_iterAt hB.out (Nat.le_refl _) _ _)
        have hP := Lib.hid (iterPos_of hI.out)
        obtain ⟨m, hm⟩ : ∃ m, m = bt t (k : Int) := ⟨_, rfl⟩
        have hmv : (((t[k]'ck).toNat : Nat) : Int) = m := by rw [hm, bt_nat t k ck]
        have hkl : k < (nums8 t).length := by rw [HLN.out]; exact ck
        have HTK := Lib.hid (show (nums8 t).take (k + 1) = (nums8 t).take k ++ [m] by rw [hm, ← nums8_at t k ck]; exact List.take_succ_eq_append_getElem hkl)
        have HMM := Lib.hid (show m ∈ nums8 t by rw [hm, ← nums8_at t k ck]; exact List.getElem_mem _)
        have hm0 : 0 ≤ m := by rw [← hmv]; omega
        have hm1 : m < 128 := by rw [← hmv]; omega
        have HC1 := Lib.hid (HC.out m hm0 hm1 W2)
        simp only [hmv] at hnx
        rw [← hW2] at hnx
        clear hm hmv hlt hkl hW2 hm0 hm1
        by_cases hin : m ∈ nums8 p
        · have HX2 := Lib.hid (show ∀ x ∈ (nums8 t).take (k + 1), x ∈ nums8 p by
            rw [HTK.out]
            intro x hx
            rcases List.mem_append.1 hx with hx | hx
            · exact hX.out x hx
            · rw [List.mem_singleton.1 hx]; exact hin)
          rw [decide_eq_true hin] at HC1
          clear hX hin HTK HMM
          go_wp2_with fail
          refine HC1.out.mono ?_
          rintro e w3 ⟨rfl, hb3⟩
          have HI3 := Lib.hid (show w3.heap[w.heap.size]? = some (.stringIter t (k + 1)) by rw [hb3.block _ (by have := hS2.out; omega)]; exact hI2.out)
          have HS3 := Lib.hid (show w.heap.size + 1 ≤ w3.heap.size from Nat.le_trans hS2.out hb3.size)
          have HB3 := Lib.hid (show Below w.heap.size w w3 from hB2.out.trans (hb3.mono (by have := hS2.out; omega)))
          have HP3 := Lib.hid (iterPos_of HI3.out)
          clear hb3 HC1 hI2 hS2 hB2 hI hS hB hnx
          go_wp2
          go_roundw
          case rel => exact ⟨k + 1, _, rfl, by omega, HI3, HS3, HB3, HX2⟩
          case measure => rw [HP3.out, hP.out]; omega
        · have HD := Lib.hid (show decide (∀ x ∈ nums8 t, x ∈ nums8 p) = false from decide_eq_false (fun q => hin (q m HMM.out)))
          rw [decide_eq_false hin] at HC1
          clear hX hin HTK HMM
          go_wp2_with fail
          refine HC1.out.mono ?_
          rintro e w3 ⟨rfl, hb3⟩
          have HB3 := Lib.hid (show Below w.heap.size w w3 from hB2.out.trans (hb3.mono (by have := hS2.out; omega)))
          clear hb3 HC1 hI2 hS2 hB2 hI hS hB hnx
          go_wp2
          go_ret
          exact ⟨congrArg (fun z => Ending.returned (Value.bool z)) HD.out.symm, HB3.out⟩
      · obtain ⟨g1, g2⟩ := decode_ge t k ck (Nat.le_of_not_lt hlt)
        obtain ⟨R, hR⟩ : ∃ R : Nat, R = (Utf8.decode t k).1 := ⟨_, rfl⟩
        obtain ⟨D, hD⟩ : ∃ D : Nat, D = k + (Utf8.decode t k).2 := ⟨_, rfl⟩
        rw [← hR] at g1 g2 hnx
        rw [← hD] at hnx
        obtain ⟨W2, hW2⟩ : ∃ W2, W2 = wr.iterAt w.heap.size t D := ⟨_, rfl⟩
        have hS2 := Lib.hid (show w.heap.size + 1 ≤ W2.heap.size by rw [hW2, Lib.iterAt_size]; exact hS.out)
        have hB2 := Lib.hid (show Below w.heap.size w W2 by rw [hW2]; exact Lib.below_iterAt hB.out (Nat.le_refl _) _ _)
        rw [← hW2] at hnx
        have HC1 := Lib.hid (HN.out (R : Int) (by omega) (by omega) W2)
        have HD := Lib.hid (show decide (∀ x ∈ nums8 t, x ∈ nums8 p) = false from decide_eq_false (fun q => by
          have h1 : bt t (k : Int) ∈ nums8 t := by
            rw [← nums8_at t k ck]
            exact List.getElem_mem _
          obtain ⟨j, hj, he⟩ := List.getElem_of_mem (q _ h1)
          rw [nums8_length] at hj
          rw [nums8_at p j hj] at he
          have h2 := HAP.out j hj
          rw [he, bt_nat t k ck] at h2
          omega))
        clear hR hD hW2 g1 g2 hlt hX hI
        go_wp2_with fail
        refine HC1.out.mono ?_
        rintro e w3 ⟨rfl, hb3⟩
        have HB3 := Lib.hid (show Below w.heap.size w w3 from hB2.out.trans (hb3.mono (by have := hS2.out; omega)))
        clear hb3 HC1 hS2 hB2 hS hB hnx
        go_wp2
        go_ret
        exact ⟨congrArg (fun z => Ending.returned (Value.bool z)) HD.out.symm, HB3.out⟩
    · obtain rfl : k = t.size := by omega
      have hnx : ∀ ty, (Instr.next (.pointer (some ⟨w.heap.size, 0, none⟩)) true ty).run Tryd.prog wr = _ := fun ty => Lib.run_next_end_at wr w.heap.size t t.size ty hI.out (Nat.lt_irrefl _)
      have HD := Lib.hid (show decide (∀ x ∈ nums8 t, x ∈ nums8 p) = true from decide_eq_true (by have := hX.out; rw [← HLN.out, List.take_length] at this; exact this))
      clear hX
      go_wp2
      go_ret
      exact ⟨congrArg (fun z => Ending.returned (Value.bool z)) HD.out.symm, hB.out⟩
end Go.Proofs.YtlhijjfbcgconaaDoor.P


/- Versions by the letter: any text cut at points, or at one sign; the two tests at any text. -/
set_option linter.unusedVariables false
set_option linter.unusedSimpArgs false
namespace Go.Proofs.YtlhijjfbcgconaaDoor.P
open Go.RowKit Go.Proofs.YtlhijjfbcgconaaDoorW.PrintWords Go.Proofs.YtlhijjfbcgconaaDoorW.PrintLast Go.Proofs.YtlhijjfbcgconaaDoorW.PrintMore

/-- The first place of a byte from x on. -/
theorem first_at (p : ByteArray) (c : Int) : ∀ n x : Nat, x + n = p.size → ∃ z, x ≤ z ∧ z ≤ p.size ∧ (z = p.size ∨ (z < p.size ∧ bt p (z : Int) = c)) ∧ ∀ j, x ≤ j → j < z → bt p (j : Int) ≠ c
  | 0, x, h => ⟨x, Nat.le_refl _, by omega, .inl (by omega), fun j h1 h2 => by omega⟩
  | n + 1, x, h => by
    by_cases hc : bt p (x : Int) = c
    · exact ⟨x, Nat.le_refl _, by omega, .inr ⟨by omega, hc⟩, fun j h1 h2 => by omega⟩
    · obtain ⟨z, h1, h2, h3, h4⟩ := first_at p c n (x + 1) (by omega)
      refine ⟨z, by omega, h2, h3, fun j g1 g2 => ?_⟩
      by_cases hj : j = x
      · rw [hj]; exact hc
      · exact h4 j (by omega) g2
theorem index_byte (c : UInt8) (p : ByteArray) (hp : p.size ≤ 1000) (z : Nat) (hz : z ≤ p.size) (hend : z = p.size ∨ bt p (z : Int) = ((c.toNat : Nat) : Int)) : ∀ n x : Nat, x + n = z → (∀ j, x ≤ j → j < z → bt p (j : Int) ≠ ((c.toNat : Nat) : Int)) →
    Ev (fun k => semver_zzIndex.l0 k p ⟨#[c]⟩ (x : Int)) (if z = p.size then -1 else (z : Int))
  | 0, x, hx, _ => by
    obtain rfl : x = z := by omega
    have h1 : ((⟨#[c]⟩ : ByteArray).size : Int) = 1 := rfl
    refine Ev.step (fun k => by rw [semver_zzIndex.l0]) ?_
    rw [h1, w64_in (by omega) (by omega)]
    by_cases cc : x = p.size
    · rw [if_pos cc]
      exact Ev.neg (by omega) (Ev.ok _)
    · rw [if_neg cc]
      refine Ev.pos (by omega) (Ev.pos (by omega) (Ev.pos (by omega) (Ev.pos ?_ (Ev.ok _))))
      rcases hend with h | h
      · exact absurd h cc
      · rw [show ((x : Int) + 1).toNat = x + 1 by omega, Int.toNat_natCast, ByteArray.toList_eq, ByteArray.toList_eq]
        have h2 := bt_nat p x (by omega)
        rw [h] at h2
        have h3 : p[x]'(by omega) = c := UInt8.toNat_inj.1 (by omega)
        rw [ext_one p x (by omega), h3]
  | n + 1, x, hx, hno => by
    have h1 : ((⟨#[c]⟩ : ByteArray).size : Int) = 1 := rfl
    have ih := index_byte c p hp z hz hend n (x + 1) (by omega) (fun j h2 h3 => hno j (by omega) h3)
    refine Ev.step (fun k => by rw [semver_zzIndex.l0]) ?_
    rw [h1, w64_in (by omega) (by omega)]
    refine Ev.pos (by omega) (Ev.pos (by omega) (Ev.pos (by omega) (Ev.neg ?_ ?_)))
    · intro h
      rw [show ((x : Int) + 1).toNat = x + 1 by omega, Int.toNat_natCast, ByteArray.toList_eq, ByteArray.toList_eq] at h
      rw [ext_one p x (by omega)] at h
      have h5 : p[x]'(by omega) = c := by
        have : [p[x]'(by omega)] = [c] := h
        exact (List.cons.inj this).1
      have h6 := bt_nat p x (by omega)
      rw [h5] at h6
      exact hno x (Nat.le_refl _) (by omega) h6
    · rw [show (x : Int) + 1 = ((x + 1 : Nat) : Int) by omega]
      exact ih
theorem index_f (c : UInt8) (p : ByteArray) (hp : p.size ≤ 1000) (z : Nat) (hz : z ≤ p.size) (hend : z = p.size ∨ bt p (z : Int) = ((c.toNat : Nat) : Int)) (hno : ∀ j, j < z → bt p (j : Int) ≠ ((c.toNat : Nat) : Int)) :
    Ev (fun k => semver_zzIndex.f k p ⟨#[c]⟩) (if z = p.size then -1 else (z : Int)) := by
  unfold semver_zzIndex.f
  exact index_byte c p hp z hz hend z 0 (by omega) (fun j _ h => hno j h)
theorem good_of (p : ByteArray) (strict : Bool) (x z : Nat) (hz : z ≤ p.size) (h : Good strict (p.extract x z)) : x < z ∧ (∀ j, x ≤ j → j < z → isP (bt p (j : Int))) ∧ (strict = true → okSeg p x z) := by
  obtain ⟨h1, h2, h3, h4⟩ := h
  rw [ext_size _ _ _ hz] at h1
  refine ⟨by omega, fun j g1 g2 => ?_, fun q => ?_⟩
  · have := h3 (j - x) (by rw [ext_size _ _ _ hz]; omega)
    rw [bt_ext p x z (j - x) (by omega), show x + (j - x) = j by omega] at this
    exact this
  · have := h4 q
    rw [ext_size _ _ _ hz] at this
    have h5 := (okSeg_ext (by omega)).1 this
    rw [Nat.add_zero, show x + (z - x) = z by omega] at h5
    exact h5
/-- Any text cut at points: its parts are well just if the text is parts. -/
theorem splitA_l (p : ByteArray) (hp : p.size ≤ 100) : ∀ n x : Nat, x + n = p.size → ∀ acc : List ByteArray, acc.length + (p.size - x) ≤ 1000 →
    ∃ l : List ByteArray, Ev (fun k => semver_zzSplit.l0 k (p.extract x p.size) ⟨#[46]⟩ acc) (acc ++ l) ∧ l.length + x ≤ p.size + 1 ∧ (∀ t ∈ l, t.size ≤ 100) ∧ ∀ strict, (∀ t ∈ l, Good strict t) ↔ PF p strict p.size x := by
  have h1 : ((⟨#[46]⟩ : ByteArray).size : Int) = 1 := rfl
  intro n
  induction n using Nat.strongRecOn with
  | _ n ih =>
    intro x hx acc hacc
    obtain ⟨z, z1, z2, z3, z4⟩ := first_at p 46 n x hx
    have hz : (p.extract x p.size).size = p.size - x := ext_size _ _ _ (Nat.le_refl _)
    have hi := index_byte 46 (p.extract x p.size) (by omega) (z - x) (by omega) (by
      rcases z3 with z3 | ⟨z3, z5⟩
      · exact .inl (by omega)
      · refine .inr ?_
        rw [bt_ext p x p.size (z - x) (by omega), show x + (z - x) = z by omega]
        exact z5) (z - x) 0 (by omega) (fun j _ hj => by
      rw [bt_ext p x p.size j (by omega)]
      exact z4 (x + j) (by omega) (by omega))
    rcases z3 with z3 | ⟨z3, z5⟩
    · rw [if_pos (by omega)] at hi
      refine ⟨[p.extract x p.size], ?_, by simp; omega, fun t ht => ?_, fun strict => ?_⟩
      · refine Ev.step (fun k => by rw [semver_zzSplit.l0]) ?_
        refine Ev.bind (by unfold semver_zzIndex.f; exact hi) ?_
        exact Ev.pos (by decide) (Ev.pos (by omega) (Ev.ok _))
      · rw [List.mem_singleton.1 ht]; omega
      · constructor
        · intro h
          obtain ⟨q1, q2, q3⟩ := good_of p strict x p.size (Nat.le_refl _) (h _ (List.mem_singleton.2 rfl))
          exact PF.last q1 q2 q3
        · intro h t ht
          rw [List.mem_singleton.1 ht]
          cases h with
          | last q1 q2 q3 => exact good_cut hp (Nat.le_refl _) q1 q2 q3
          | @more _ zz q1 q2 q3 q4 q5 q6 => exact absurd q5 (z4 zz (by omega) (by omega))
    · rw [if_neg (by omega)] at hi
      obtain ⟨l, hl1, hl2, hl3, hl4⟩ := ih (p.size - (z + 1)) (by omega) (z + 1) (by omega) (acc ++ [p.extract x z]) (by rw [List.length_append, List.length_singleton]; omega)
      refine ⟨p.extract x z :: l, ?_, by rw [List.length_cons]; omega, fun t ht => ?_, fun strict => ?_⟩
      · refine Ev.step (fun k => by rw [semver_zzSplit.l0]) ?_
        refine Ev.bind (by unfold semver_zzIndex.f; exact hi) ?_
        rw [h1, w64_in (by omega) (by omega), show (((z - x : Nat) : Int) + 1).toNat = z - x + 1 by omega, Int.toNat_natCast]
        refine Ev.neg (by omega) (Ev.pos (by omega) (Ev.pos (by omega) (Ev.pos (by omega) (Ev.pos (by omega) (Ev.pos (by omega) ?_)))))
        rw [hz, ext_ext p x p.size _ _ (by omega), ext_ext p x p.size _ _ (by omega), show x + (z - x + 1) = z + 1 by omega, show x + (p.size - x) = p.size by omega, show x + (z - x) = z by omega, Nat.add_zero, show acc ++ p.extract x z :: l = (acc ++ [p.extract x z]) ++ l by rw [List.append_assoc]; rfl]
        exact hl1
      · rcases List.mem_cons.1 ht with ht | ht
        · rw [ht, ext_size _ _ _ (by omega)]; omega
        · exact hl3 t ht
      · constructor
        · intro h
          obtain ⟨q1, q2, q3⟩ := good_of p strict x z (by omega) (h _ (List.mem_cons_self ..))
          exact PF.more q1 z3 q2 q3 z5 ((hl4 strict).1 (fun t ht => h t (List.mem_cons_of_mem _ ht)))
        · intro h
          have hzz : x < z ∧ (∀ j, x ≤ j → j < z → isP (bt p (j : Int))) ∧ (strict = true → okSeg p x z) ∧ PF p strict p.size (z + 1) := by
            cases h with
            | last q1 q2 q3 =>
              have := q2 z z1 z3
              rw [z5] at this
              exact absurd this dot_notP
            | @more _ zz q1 q2 q3 q4 q5 q6 =>
              have e : zz = z := by
                rcases Nat.lt_trichotomy zz z with c | c | c
                · exact absurd q5 (z4 zz (by omega) c)
                · exact c
                · have := q3 z z1 c
                  rw [z5] at this
                  exact absurd this dot_notP
              subst e
              exact ⟨q1, q3, q4, q6⟩
          obtain ⟨q1, q2, q3, q4⟩ := hzz
          intro t ht
          rcases List.mem_cons.1 ht with ht | ht
          · rw [ht]; exact good_cut hp (by omega) q1 q2 q3
          · exact (hl4 strict).2 q4 t ht
theorem splitA_ev (p : ByteArray) (hp : p.size ≤ 100) : ∃ l : List ByteArray, Ev (fun k => semver_zzSplit.f k p ⟨#[46]⟩) l ∧ l.length ≤ 101 ∧ (∀ t ∈ l, t.size ≤ 100) ∧ ∀ strict, (∀ t ∈ l, Good strict t) ↔ PF p strict p.size 0 := by
  obtain ⟨l, h1, h2, h3, h4⟩ := splitA_l p hp p.size 0 (by omega) [] (by simp; omega)
  rw [ext_all] at h1
  exact ⟨l, by unfold semver_zzSplit.f; exact h1, by omega, h3, h4⟩
/-! ### SplitN -/
theorem splitN_end (c : UInt8) (q : ByteArray) (acc : List ByteArray) (ha : acc.length ≤ 1000) : Ev (fun k => semver_zzSplitN.j2 k q ⟨#[c]⟩ acc) (acc ++ [q]) := by
  have h1 : ((⟨#[c]⟩ : ByteArray).size : Int) = 1 := rfl
  refine Ev.step (fun k => by rw [semver_zzSplitN.j2]) (Ev.neg (by omega) (Ev.step (fun k => by rw [semver_zzSplitN.j3]) (Ev.neg (by decide) (Ev.pos (by omega) (Ev.ok _)))))
theorem splitN_stop (c : UInt8) (n : Int) (hn0 : 1 ≤ n) (hn1 : n ≤ 10) (q : ByteArray) (acc : List ByteArray) (ha : acc.length ≤ 1000) (h : n - 1 ≤ acc.length) : Ev (fun k => semver_zzSplitN.l0 k q ⟨#[c]⟩ n acc) (acc ++ [q]) := by
  refine Ev.step (fun k => by rw [semver_zzSplitN.l0]) (Ev.neg (by omega) ?_)
  rw [w64_in (by omega) (by omega), decide_eq_false (by omega)]
  exact Ev.step (fun k => by rw [semver_zzSplitN.j1]) (Ev.neg (by decide) (splitN_end c q acc ha))
theorem splitN_none (c : UInt8) (n : Int) (hn0 : 1 ≤ n) (hn1 : n ≤ 10) (q : ByteArray) (hq : q.size ≤ 100) (acc : List ByteArray) (ha : acc.length ≤ 1000) (h : (acc.length : Int) < n - 1) (hno : ∀ j, j < q.size → bt q (j : Int) ≠ ((c.toNat : Nat) : Int)) : Ev (fun k => semver_zzSplitN.l0 k q ⟨#[c]⟩ n acc) (acc ++ [q]) := by
  have h1 : ((⟨#[c]⟩ : ByteArray).size : Int) = 1 := rfl
  have hi := index_f c q (by omega) q.size (Nat.le_refl _) (.inl rfl) hno
  rw [if_pos rfl] at hi
  refine Ev.step (fun k => by rw [semver_zzSplitN.l0]) (Ev.neg (by omega) ?_)
  rw [w64_in (by omega) (by omega), decide_eq_true (by omega)]
  refine Ev.step (fun k => by rw [semver_zzSplitN.j1]) (Ev.pos rfl (Ev.neg (by omega) ?_))
  exact Ev.bind hi (Ev.pos (by decide) (splitN_end c q acc ha))
theorem splitN_more (c : UInt8) (n : Int) (hn0 : 1 ≤ n) (hn1 : n ≤ 10) (q : ByteArray) (hq : q.size ≤ 100) (acc : List ByteArray) (ha : acc.length ≤ 1000) (h : (acc.length : Int) < n - 1) (z : Nat) (hz : z < q.size) (hc : bt q (z : Int) = ((c.toNat : Nat) : Int)) (hno : ∀ j, j < z → bt q (j : Int) ≠ ((c.toNat : Nat) : Int)) (r : List ByteArray)
    (hr : Ev (fun k => semver_zzSplitN.l0 k (q.extract (z + 1) q.size) ⟨#[c]⟩ n (acc ++ [q.extract 0 z])) r) : Ev (fun k => semver_zzSplitN.l0 k q ⟨#[c]⟩ n acc) r := by
  have h1 : ((⟨#[c]⟩ : ByteArray).size : Int) = 1 := rfl
  have hi := index_f c q (by omega) z (by omega) (.inr hc) hno
  rw [if_neg (by omega)] at hi
  refine Ev.step (fun k => by rw [semver_zzSplitN.l0]) (Ev.neg (by omega) ?_)
  rw [w64_in (by omega) (by omega), decide_eq_true (by omega)]
  refine Ev.step (fun k => by rw [semver_zzSplitN.j1]) (Ev.pos rfl (Ev.neg (by omega) ?_))
  refine Ev.bind hi ?_
  rw [h1, w64_in (by omega) (by omega), show ((z : Int) + 1).toNat = z + 1 by omega, Int.toNat_natCast]
  exact Ev.neg (by omega) (Ev.pos (by omega) (Ev.pos (by omega) (Ev.pos (by omega) (Ev.pos (by omega) (Ev.pos (by omega) hr)))))
end Go.Proofs.YtlhijjfbcgconaaDoor.P


/- Versions by the letter: the two tests refuse what is no parts. -/
set_option linter.unusedVariables false
set_option linter.unusedSimpArgs false
namespace Go.Proofs.YtlhijjfbcgconaaDoor.P
open Go.RowKit Go.Proofs.YtlhijjfbcgconaaDoorW.PrintWords Go.Proofs.YtlhijjfbcgconaaDoorW.PrintLast Go.Proofs.YtlhijjfbcgconaaDoorW.PrintMore

theorem empty_t {s : ByteArray} (h : s.size = 0) : s.toList.isEmpty = true := by
  rw [ByteArray.toList_eq]
  have h2 := size_list s
  rw [h] at h2
  rw [List.isEmpty_iff]
  exact List.length_eq_zero_iff.1 h2
theorem ascii_mem {p : ByteArray} (ha : ascii p) {x : Int} (h : x ∈ nums8 p) : 0 ≤ x ∧ x < 128 := by
  obtain ⟨j, hj, rfl⟩ := List.getElem_of_mem h
  rw [nums8_length] at hj
  rw [nums8_at p j hj]
  have h1 := bt_nat p j hj
  exact ⟨by omega, ha j hj⟩
theorem only_P (t : ByteArray) : (∀ x ∈ nums8 t, x ∈ nums8 allT) ↔ ∀ j : Nat, j < t.size → isP (bt t (j : Int)) := by
  rw [nums_iff]
  refine ⟨fun q j hj => ?_, fun q j hj => ?_⟩
  · obtain ⟨h1, h2⟩ := ascii_mem all_ascii (q j hj)
    exact (all_mem h1 h2).1 (q j hj)
  · exact (all_mem (isP_range (q j hj)).1 (isP_range (q j hj)).2).2 (q j hj)
theorem only_D (t : ByteArray) : (∀ x ∈ nums8 t, x ∈ nums8 numT) ↔ ∀ j : Nat, j < t.size → isD (bt t (j : Int)) := by
  rw [nums_iff]
  refine ⟨fun q j hj => ?_, fun q j hj => ?_⟩
  · obtain ⟨h1, h2⟩ := ascii_mem num_ascii (q j hj)
    exact (num_mem h1 h2).1 (q j hj)
  · have h := q j hj
    have h2 : 0 ≤ bt t (j : Int) ∧ bt t (j : Int) < 128 := by unfold isD at h; omega
    exact (num_mem h2.1 h2.2).2 h
theorem take_more {l : List ByteArray} {k : Nat} {Q : ByteArray → Prop} (hk : k < l.length) (h : ∀ t ∈ l.take k, Q t) (hq : Q l[k]) : ∀ t ∈ l.take (k + 1), Q t := by
  intro t ht
  rw [List.take_succ_eq_append_getElem hk] at ht
  rcases List.mem_append.1 ht with ht | ht
  · exact h t ht
  · rw [List.mem_singleton.1 ht]; exact hq
set_option maxHeartbeats 1600000 in
set_option maxRecDepth 100000 in
theorem validMeta_no (p : ByteArray) (hp : p.size ≤ 100) (h : ¬ PF p false p.size 0) (w : World) :
    Calls Tryd.prog 56 #[.string p] w fun e w' => (∃ ty v, e = .returned (.iface ty v)) ∧ Below w.heap.size w w' := by
  obtain ⟨l, ⟨K, hK⟩, hl, hg, hPF⟩ := splitA_ev p hp
  have HSP := Lib.hid (semver_zzSplit.calls K p ⟨#[46]⟩ l w (hK K (Nat.le_refl _)))
  have HG := Lib.hid hg
  have HNO := Lib.hid (show ¬ ∀ t ∈ l, Good false t from fun q => h ((hPF false).1 q))
  clear hK hg h hPF
  go_enter Tryd.func56, Tryd.ntmps56
  go_wp2_with fail
  refine HSP.out.mono ?_
  rintro e w1 ⟨v, rfl, hr, hb⟩
  obtain ⟨A, c, rfl, hle, hC⟩ := Kd.R_reads hr
  have HC := Lib.hid hC
  have HB := Lib.hid hb
  clear hr hb hC hle HSP
  go_wp2
  go_loopw [5, 10] (fun y i wr => ∃ (k : Nat) (yv : Value), yv = y ∧ i = .int .i64 k ∧ k ≤ l.length ∧ Hid (Below w1.heap.size w1 wr) ∧ Hid (∀ t ∈ l.take k, Good false t)) (fun _ i _ => l.length - (intOf i).toNat)
  case atStart => exact ⟨0, _, rfl, rfl, Nat.zero_le _, Lib.hid (Below.refl _ _), Lib.hid (fun t ht => by simp at ht)⟩
  case round =>
    obtain ⟨k, yv, rfl, rfl, hk, hW, hX⟩ := hrel
    have HE := Lib.hid (show ∀ W, Below wr.heap.size wr W → Below w.heap.size w W from fun W q => HB.out.trans ((hW.out.trans (q.mono hW.out.size)).mono HB.out.size))
    by_cases ck : k < l.length
    · obtain ⟨ad, rfl, q0⟩ := Kd.at_string (Kd.C_below HC.out hW.out) (k : Int) (by omega) (by omega)
      obtain ⟨t, ht⟩ : ∃ t, t = l[k] := ⟨_, rfl⟩
      have q1 : wr.cell? (ad.add k) = some (.string t) := by
        have h1 : rdOf (⟨#[]⟩ : ByteArray) l (k : Int) = t := by rw [ht]; simp [rdOf, ck]
        rw [← h1]
        exact q0
      have htz := HG.out t (by rw [ht]; exact List.getElem_mem _)
      have HBT := Lib.hid (fun (W : World) (hb : Below wr.heap.size wr W) => show Below w1.heap.size w1 W from hW.out.trans (hb.mono hW.out.size))
      have HALL := Lib.hid (fun W => only_any t allT (by omega) all_ascii (by decide) W)
      have HNUM := Lib.hid (fun W => only_any t numT (by omega) num_ascii (by decide) W)
      have HX2 := Lib.hid (fun (q : Good false t) => take_more ck hX.out (by rw [← ht]; exact q))
      clear ht q0 hX hW
      by_cases hz : t.size = 0
      · have hne := empty_t hz
        clear HX2 HBT HALL HNUM hz
        go_wp2
        go_ret
        exact ⟨⟨_, _, rfl⟩, HE.out _ (Below.refl _ _)⟩
      · have hne := full_t (Nat.pos_of_ne_zero hz)
        by_cases hP : ∀ j : Nat, j < t.size → isP (bt t (j : Int))
        · rw [decide_eq_true ((only_P t).2 hP)] at HALL
          have HX3 := Lib.hid (HX2.out ⟨by omega, htz, hP, fun q => by cases q⟩)
          clear hP HX2 HNUM htz hz
          go_wp2_with fail
          refine (HALL.out _).mono ?_
          rintro e w3 ⟨rfl, hb3⟩
          have HB3 := Lib.hid (hb3)
          clear hb3 HALL
          go_wp2
          go_roundw
          case rel => exact ⟨k + 1, _, rfl, by go_num, by omega, Lib.hid (HBT.out _ HB3.out), HX3⟩
          case measure => simp [intOf]; omega
        · rw [decide_eq_false (fun q => hP ((only_P t).1 q))] at HALL
          clear hP HX2 HNUM htz hz HBT
          go_wp2_with fail
          refine (HALL.out _).mono ?_
          rintro e w3 ⟨rfl, hb3⟩
          have HB3 := Lib.hid (hb3)
          clear hb3 HALL
          go_wp2
          go_ret
          exact ⟨⟨_, _, rfl⟩, HE.out _ HB3.out⟩
    · exfalso
      obtain rfl : k = l.length := by omega
      exact HNO.out (by have := hX.out; rw [List.take_length] at this; exact this)
set_option maxHeartbeats 1600000 in
set_option maxRecDepth 100000 in
theorem validPre_no (p : ByteArray) (hp : p.size ≤ 100) (h : ¬ PF p true p.size 0) (w : World) :
    Calls Tryd.prog 57 #[.string p] w fun e w' => (∃ ty v, e = .returned (.iface ty v)) ∧ Below w.heap.size w w' := by
  obtain ⟨l, ⟨K, hK⟩, hl, hg, hPF⟩ := splitA_ev p hp
  have HSP := Lib.hid (semver_zzSplit.calls K p ⟨#[46]⟩ l w (hK K (Nat.le_refl _)))
  have HG := Lib.hid hg
  have HNO := Lib.hid (show ¬ ∀ t ∈ l, Good true t from fun q => h ((hPF true).1 q))
  clear hK hg h hPF
  go_enter Tryd.func57, Tryd.ntmps57
  go_wp2_with fail
  refine HSP.out.mono ?_
  rintro e w1 ⟨v, rfl, hr, hb⟩
  obtain ⟨A, c, rfl, hle, hC⟩ := Kd.R_reads hr
  have HC := Lib.hid hC
  have HB := Lib.hid hb
  clear hr hb hC hle HSP
  go_wp2
  go_loopw [5, 10] (fun y i wr => ∃ (k : Nat) (yv : Value), yv = y ∧ i = .int .i64 k ∧ k ≤ l.length ∧ Hid (Below w1.heap.size w1 wr) ∧ Hid (∀ t ∈ l.take k, Good true t)) (fun _ i _ => l.length - (intOf i).toNat)
  case atStart => exact ⟨0, _, rfl, rfl, Nat.zero_le _, Lib.hid (Below.refl _ _), Lib.hid (fun t ht => by simp at ht)⟩
  case round =>
    obtain ⟨k, yv, rfl, rfl, hk, hW, hX⟩ := hrel
    have HE := Lib.hid (show ∀ W, Below wr.heap.size wr W → Below w.heap.size w W from fun W q => HB.out.trans ((hW.out.trans (q.mono hW.out.size)).mono HB.out.size))
    by_cases ck : k < l.length
    · obtain ⟨ad, rfl, q0⟩ := Kd.at_string (Kd.C_below HC.out hW.out) (k : Int) (by omega) (by omega)
      obtain ⟨t, ht⟩ : ∃ t, t = l[k] := ⟨_, rfl⟩
      have q1 : wr.cell? (ad.add k) = some (.string t) := by
        have h1 : rdOf (⟨#[]⟩ : ByteArray) l (k : Int) = t := by rw [ht]; simp [rdOf, ck]
        rw [← h1]
        exact q0
      have htz := HG.out t (by rw [ht]; exact List.getElem_mem _)
      have HBT := Lib.hid (fun (W : World) (hb : Below wr.heap.size wr W) => show Below w1.heap.size w1 W from hW.out.trans (hb.mono hW.out.size))
      have HALL := Lib.hid (fun W => only_any t allT (by omega) all_ascii (by decide) W)
      have HNUM := Lib.hid (fun W => only_any t numT (by omega) num_ascii (by decide) W)
      have HX2 := Lib.hid (fun (q : Good true t) => take_more ck hX.out (by rw [← ht]; exact q))
      clear ht q0 hX hW
      by_cases hz : t.size = 0
      · have hne := empty_t hz
        clear HX2 HBT HALL HNUM hz
        go_wp2
        go_ret
        exact ⟨⟨_, _, rfl⟩, HE.out _ (Below.refl _ _)⟩
      · have hne := full_t (Nat.pos_of_ne_zero hz)
        by_cases hP : ∀ j : Nat, j < t.size → isP (bt t (j : Int))
        · rw [decide_eq_true ((only_P t).2 hP)] at HALL
          by_cases hD : ∀ j : Nat, j < t.size → isD (bt t (j : Int))
          · rw [decide_eq_true ((only_D t).2 hD)] at HNUM
            have hz0 : 0 < t.size := Nat.pos_of_ne_zero hz
            by_cases c1 : 1 < t.size
            · have c1b : decide (1 < (t.size : Int)) = true := decide_eq_true (by omega)
              by_cases h48 : (((t[0]'hz0).toNat : Nat) : Int) = 48
              · have h48b : ((((t[0]'hz0).toNat : Nat) : Int) == 48) = true := by rw [h48]; rfl
                clear hP hD HX2 HALL htz hz h48 HBT
                go_wp2_with fail
                refine (HNUM.out _).mono ?_
                rintro e w3 ⟨rfl, hb3⟩
                have HB3 := Lib.hid (hb3)
                clear hb3 HNUM
                go_wp2
                go_ret
                exact ⟨⟨_, _, rfl⟩, HE.out _ HB3.out⟩
              · have h48b : ((((t[0]'hz0).toNat : Nat) : Int) == 48) = false := beq_eq_false_iff_ne.2 h48
                have HX3 := Lib.hid (HX2.out ⟨by omega, htz, hP, fun _ => fun _ q _ => h48 (by rw [← bt_nat t 0 hz0]; exact q)⟩)
                clear hP hD HX2 HALL htz hz h48
                go_wp2_with fail
                refine (HNUM.out _).mono ?_
                rintro e w3 ⟨rfl, hb3⟩
                have HB3 := Lib.hid (hb3)
                clear hb3 HNUM
                go_wp2
                go_roundw
                case rel => exact ⟨k + 1, _, rfl, by go_num, by omega, Lib.hid (HBT.out _ HB3.out), HX3⟩
                case measure => simp [intOf]; omega
            · have c1b : decide (1 < (t.size : Int)) = false := decide_eq_false (by omega)
              have HX3 := Lib.hid (HX2.out ⟨by omega, htz, hP, fun _ => fun q => by omega⟩)
              clear hP hD HX2 HALL htz hz
              go_wp2_with fail
              refine (HNUM.out _).mono ?_
              rintro e w3 ⟨rfl, hb3⟩
              have HB3 := Lib.hid (hb3)
              clear hb3 HNUM
              go_wp2
              go_roundw
              case rel => exact ⟨k + 1, _, rfl, by go_num, by omega, Lib.hid (HBT.out _ HB3.out), HX3⟩
              case measure => simp [intOf]; omega
          · rw [decide_eq_false (fun q => hD ((only_D t).1 q))] at HNUM
            have HX3 := Lib.hid (HX2.out ⟨by omega, htz, hP, fun _ => fun _ _ q => hD (fun j hj => q j (Nat.zero_le _) hj)⟩)
            clear hP hD HX2 htz hz
            go_wp2_with fail
            refine (HNUM.out _).mono ?_
            rintro e w3 ⟨rfl, hb3⟩
            have HB3 := Lib.hid (hb3)
            clear hb3 HNUM
            go_wp2_with fail
            refine (HALL.out _).mono ?_
            rintro e w4 ⟨rfl, hb4⟩
            have HB4 := Lib.hid (HB3.out.trans (hb4.mono HB3.out.size))
            clear hb4 HALL
            go_wp2
            go_roundw
            case rel => exact ⟨k + 1, _, rfl, by go_num, by omega, Lib.hid (HBT.out _ HB4.out), HX3⟩
            case measure => simp [intOf]; omega
        · rw [decide_eq_false (fun q => hP ((only_P t).1 q))] at HALL
          rw [decide_eq_false (fun q => hP (fun j hj => isD_isP ((only_D t).1 q j hj)))] at HNUM
          clear hP HX2 htz hz HBT
          go_wp2_with fail
          refine (HNUM.out _).mono ?_
          rintro e w3 ⟨rfl, hb3⟩
          have HB3 := Lib.hid (hb3)
          clear hb3 HNUM
          go_wp2_with fail
          refine (HALL.out _).mono ?_
          rintro e w4 ⟨rfl, hb4⟩
          have HB4 := Lib.hid (HB3.out.trans (hb4.mono HB3.out.size))
          clear hb4 HALL
          go_wp2
          go_ret
          exact ⟨⟨_, _, rfl⟩, HE.out _ HB4.out⟩
    · exfalso
      obtain rfl : k = l.length := by omega
      exact HNO.out (by have := hX.out; rw [List.take_length] at this; exact this)
end Go.Proofs.YtlhijjfbcgconaaDoor.P


/- Versions by the letter: where a text is cut, and when it is a version. -/
set_option linter.unusedVariables false
set_option linter.unusedSimpArgs false
namespace Go.Proofs.YtlhijjfbcgconaaDoor.P
open Go.RowKit Go.Proofs.YtlhijjfbcgconaaDoorW.PrintWords Go.Proofs.YtlhijjfbcgconaaDoorW.PrintLast Go.Proofs.YtlhijjfbcgconaaDoorW.PrintMore

/-- At most nine digits side by side. -/
def Dig9 (s : ByteArray) : Prop := ∀ x e : Nat, x ≤ e → e ≤ s.size → (∀ j, x ≤ j → j < e → isD (bt s (j : Int))) → e ≤ x + 9
def AnyForm (s : ByteArray) : Prop := ∃ a b c m n1 n2 n3 pre mt, Form9 s a b c m n1 n2 n3 pre mt
/-- A segment that is a number. -/
def SegOk (p : ByteArray) : Prop := 0 < p.size ∧ (∀ j : Nat, j < p.size → isD (bt p (j : Int))) ∧ (p.size ≤ 1 ∨ bt p 0 ≠ 48)
theorem seg_num {s : ByteArray} {x e : Nat} (hx : x ≤ e) (he : e ≤ s.size) (hend : e = s.size ∨ ¬ isD (bt s (e : Int))) (h9 : (∀ j, x ≤ j → j < e → isD (bt s (j : Int))) → e ≤ x + 9) : SegOk (s.extract x e) ↔ NumAt9 s x e := by
  unfold SegOk NumAt9
  rw [ext_size _ _ _ he]
  constructor
  · rintro ⟨h1, h2, h3⟩
    have hd : ∀ j, x ≤ j → j < e → isD (bt s (j : Int)) := fun j g1 g2 => by
      have := h2 (j - x) (by omega)
      rw [bt_ext s x e (j - x) (by omega), show x + (j - x) = j by omega] at this
      exact this
    refine ⟨by omega, h9 hd, he, hd, hend, ?_⟩
    rcases h3 with h3 | h3
    · exact .inl (by omega)
    · rw [bt_ext0 s x e (by omega)] at h3
      exact .inr h3
  · rintro ⟨h1, h2, h3, h4, h5, h6⟩
    refine ⟨by omega, fun j hj => ?_, ?_⟩
    · rw [bt_ext s x e j (by omega)]
      exact h4 (x + j) (by omega) (by omega)
    · rcases h6 with h6 | h6
      · exact .inl (by omega)
      · rw [bt_ext0 s x e h1]
        exact .inr h6
/-- Where a text is cut: the first two points, the first plus sign behind them, the first hyphen before that. -/
structure Cut (s : ByteArray) (x y c m : Nat) : Prop where
  size : s.size ≤ 100
  x1 : x < y
  y1 : y < s.size
  dx : bt s (x : Int) = 46
  dy : bt s (y : Int) = 46
  fx : ∀ j, j < x → bt s (j : Int) ≠ 46
  fy : ∀ j, x < j → j < y → bt s (j : Int) ≠ 46
  m1 : y < m
  m2 : m ≤ s.size
  dm : m = s.size ∨ bt s (m : Int) = 43
  fm : ∀ j, y < j → j < m → bt s (j : Int) ≠ 43
  c1 : y < c
  c2 : c ≤ m
  dc : c = m ∨ bt s (c : Int) = 45
  fc : ∀ j, y < j → j < c → bt s (j : Int) ≠ 45
theorem dig_ne {x : Int} (h : isD x) : x ≠ 46 ∧ x ≠ 43 ∧ x ≠ 45 := by unfold isD at h; omega
theorem isP_ne {x : Int} (h : isP x) : x ≠ 46 ∧ x ≠ 43 := by unfold isP at h; omega
theorem Form9.dots {s : ByteArray} {a b c m : Nat} {n1 n2 n3 : Int} {pre mt : ByteArray} (h : Form9 s a b c m n1 n2 n3 pre mt) {x y : Nat} (hx : x < y) (hy : y < s.size) (dx : bt s (x : Int) = 46) (dy : bt s (y : Int) = 46) (fx : ∀ j, j < x → bt s (j : Int) ≠ 46) (fy : ∀ j, x < j → j < y → bt s (j : Int) ≠ 46) : a = x ∧ b = y := by
  have e1 : a = x := by
    rcases Nat.lt_trichotomy a x with q | q | q
    · exact absurd h.p1 (fx a q)
    · exact q
    · exact absurd dx (dig_ne (h.d1.2.2.2.1 x (Nat.zero_le _) q)).1
  subst e1
  refine ⟨rfl, ?_⟩
  have hb := h.d2.1
  rcases Nat.lt_trichotomy b y with q | q | q
  · exact absurd h.p2 (fy b (by omega) q)
  · exact q
  · exact absurd dy (dig_ne (h.d2.2.2.2.1 y (by omega) q)).1
theorem Cut.form_eq {s : ByteArray} {x y c m : Nat} (hc : Cut s x y c m) {a b c' m' : Nat} {n1 n2 n3 : Int} {pre mt : ByteArray} (h : Form9 s a b c' m' n1 n2 n3 pre mt) : a = x ∧ b = y ∧ c' = c ∧ m' = m := by
  obtain ⟨e1, e2⟩ := h.dots hc.x1 hc.y1 hc.dx hc.dy hc.fx hc.fy
  subst e1 e2
  have h3 := h.d3.1
  have hcm := h.cm
  have e4 : m' = m := by
    rcases Nat.lt_trichotomy m' m with q | q | q
    · rcases h.hmeta with ⟨g, _⟩ | ⟨g, g2, _⟩
      · have := hc.m2; omega
      · exact absurd g2 (hc.fm m' (by omega) q)
    · exact q
    · rcases hc.dm with g | g
      · have := h.ms; omega
      · exact absurd g (h.noplus m q)
  subst e4
  refine ⟨rfl, rfl, ?_, rfl⟩
  rcases Nat.lt_trichotomy c' c with q | q | q
  · rcases h.hpre with ⟨g, _⟩ | ⟨g, g2, _⟩
    · have := hc.c2; omega
    · exact absurd g2 (hc.fc c' (by omega) q)
  · exact q
  · rcases hc.dc with g | g
    · omega
    · exact absurd g (dig_ne (h.d3.2.2.2.1 c (by have := hc.c1; omega) q)).2.2
/-- No more than nine digits from a place up to another one. -/
def Nine (s : ByteArray) (x e : Nat) : Prop := (∀ j, x ≤ j → j < e → isD (bt s (j : Int))) → e ≤ x + 9
theorem Cut.nine {s : ByteArray} {x y c m : Nat} (hc : Cut s x y c m) (h : AnyForm s ∨ Dig9 s) : Nine s 0 x ∧ Nine s (x + 1) y ∧ Nine s (y + 1) c := by
  have hx1 := hc.x1
  have hy1 := hc.y1
  have hc1 := hc.c1
  have hc2 := hc.c2
  have hm2 := hc.m2
  rcases h with ⟨a, b, c', m', n1, n2, n3, pre, mt, hf⟩ | h
  · obtain ⟨rfl, rfl, rfl, rfl⟩ := hc.form_eq hf
    exact ⟨fun _ => hf.d1.2.1, fun _ => hf.d2.2.1, fun _ => hf.d3.2.1⟩
  · exact ⟨fun q => h 0 x (Nat.zero_le _) (by omega) q, fun q => h (x + 1) y (by omega) (by omega) q, fun q => h (y + 1) c (by omega) (by omega) q⟩
theorem Cut.form_iff {s : ByteArray} {x y c m : Nat} (hc : Cut s x y c m) (h9 : Nine s 0 x ∧ Nine s (x + 1) y ∧ Nine s (y + 1) c) :
    AnyForm s ↔ SegOk (s.extract 0 x) ∧ SegOk (s.extract (x + 1) y) ∧ SegOk (s.extract (y + 1) c) ∧ (c < m → PF s true m (c + 1)) ∧ (m < s.size → PF s false s.size (m + 1)) := by
  have hx1 := hc.x1
  have hy1 := hc.y1
  have hc1 := hc.c1
  have hc2 := hc.c2
  have hm2 := hc.m2
  have nx : ¬ isD (bt s (x : Int)) := fun q => (dig_ne q).1 hc.dx
  have ny : ¬ isD (bt s (y : Int)) := fun q => (dig_ne q).1 hc.dy
  have nc : c = s.size ∨ ¬ isD (bt s (c : Int)) := by
    rcases hc.dc with g | g
    · rcases hc.dm with g2 | g2
      · exact .inl (by omega)
      · exact .inr (fun q => (dig_ne q).2.1 (by rw [g]; exact g2))
    · exact .inr (fun q => (dig_ne q).2.2 g)
  have s1 := seg_num (s := s) (x := 0) (e := x) (by omega) (by omega) (.inr nx) h9.1
  have s2 := seg_num (s := s) (x := x + 1) (e := y) (by omega) (by omega) (.inr ny) h9.2.1
  have s3 := seg_num (s := s) (x := y + 1) (e := c) (by omega) (by omega) nc h9.2.2
  constructor
  · rintro ⟨a, b, c', m', n1, n2, n3, pre, mt, hf⟩
    obtain ⟨rfl, rfl, rfl, rfl⟩ := hc.form_eq hf
    refine ⟨s1.2 hf.d1, s2.2 hf.d2, s3.2 hf.d3, fun q => ?_, fun q => ?_⟩
    · rcases hf.hpre with ⟨g, _⟩ | ⟨_, _, g, _⟩
      · omega
      · exact g
    · rcases hf.hmeta with ⟨g, _⟩ | ⟨_, _, g, _⟩
      · omega
      · exact g
  · rintro ⟨g1, g2, g3, g4, g5⟩
    have d1 := s1.1 g1
    have d2 := s2.1 g2
    have d3 := s3.1 g3
    have hpf : ∀ {y2 f : Nat} {st : Bool}, PF s st y2 f → ∀ j, f ≤ j → j < y2 → bt s (j : Int) ≠ 43 := by
      intro y2 f st hp
      induction hp with
      | last a1 a2 a3 => exact fun j q1 q2 => (isP_ne (a2 j q1 q2)).2
      | @more f z a1 a2 a3 a4 a5 a6 ih =>
        intro j q1 q2
        rcases Nat.lt_trichotomy j z with q | q | q
        · exact (isP_ne (a3 j q1 q)).2
        · rw [q, a5]; decide
        · exact ih j (by omega) q2
    refine ⟨x, y, c, m, dv s 0 x, dv s (x + 1) (y - (x + 1)), dv s (y + 1) (c - (y + 1)), if c < m then s.extract (c + 1) m else ⟨#[]⟩, if m < s.size then s.extract (m + 1) s.size else ⟨#[]⟩, ⟨hc.size, d1, hc.dx, by omega, d2, hc.dy, hy1, d3, hc2, hm2, ?_, ?_, rfl, rfl, rfl, ?_⟩⟩
    · by_cases q : c < m
      · rw [if_pos q]
        refine .inr ⟨q, ?_, g4 q, rfl⟩
        rcases hc.dc with g | g
        · omega
        · exact g
      · rw [if_neg q]
        exact .inl ⟨by omega, rfl⟩
    · by_cases q : m < s.size
      · rw [if_pos q]
        refine .inr ⟨q, ?_, g5 q, rfl⟩
        rcases hc.dm with g | g
        · omega
        · exact g
      · rw [if_neg q]
        exact .inl ⟨by omega, rfl⟩
    · intro j hj
      rcases Nat.lt_trichotomy j x with q | q | q
      · exact (dig_ne (d1.2.2.2.1 j (Nat.zero_le _) q)).2.1
      · rw [q, hc.dx]; decide
      · rcases Nat.lt_trichotomy j y with r | r | r
        · exact (dig_ne (d2.2.2.2.1 j (by omega) r)).2.1
        · rw [r, hc.dy]; decide
        · exact hc.fm j r hj
/-- Parts of what is cut off. -/
theorem PF_off {s : ByteArray} {strict : Bool} {a b : Nat} (ha : a ≤ b) (hb : b ≤ s.size) : PF (s.extract a b) strict (s.extract a b).size 0 ↔ PF s strict b a := by
  rw [ext_size _ _ _ hb]
  constructor
  · intro h
    have := PF_ext (a := a) (b := b) (y := b - a) (by omega) h
    rw [show a + (b - a) = b by omega, Nat.add_zero] at this
    exact this
  · intro h
    have := PF_cut (a := a) (b := b) (Nat.le_refl _) h (Nat.le_refl _)
    rw [Nat.sub_self] at this
    exact this
/-- Without two points no version. -/
theorem no_form {s : ByteArray} (h : ∀ x y : Nat, x < y → y < s.size → bt s (x : Int) = 46 → bt s (y : Int) = 46 → False) : ¬ AnyForm s := by
  rintro ⟨a, b, c, m, n1, n2, n3, pre, mt, hf⟩
  have := hf.d2.1
  exact h a b (by omega) hf.q2 hf.p1 hf.p2
end Go.Proofs.YtlhijjfbcgconaaDoor.P


/- Versions by the letter: semver.StrictNewVersion. -/
set_option linter.unusedVariables false
set_option linter.unusedSimpArgs false
namespace Go.Proofs.YtlhijjfbcgconaaDoor.P
open Go.RowKit Go.Proofs.YtlhijjfbcgconaaDoorW.PrintWords Go.Proofs.YtlhijjfbcgconaaDoorW.PrintLast Go.Proofs.YtlhijjfbcgconaaDoorW.PrintMore

/-! ### rows of texts in memory -/
def RowAt (W : World) (g : Nat) (xs : List ByteArray) : Prop := ∃ cur, W.heap[g]? = some (.cells cur 9 (0, 0)) ∧ cur.toList.take xs.length = xs.map Value.string
section
variable {W W' : World} {g : Nat} {xs : List ByteArray}
theorem RowAt.cell (h : RowAt W g xs) (i : Nat) (x : ByteArray) (hi : xs[i]? = some x) : W.cell? ⟨g, i, none⟩ = some (.string x) ∧ W.frozen? ⟨g, i, none⟩ = false := by
  obtain ⟨cur, h1, h2⟩ := h
  refine ⟨?_, blk_frozen h1 i⟩
  rw [blk_cell h1 i]
  have hl : i < xs.length := (List.getElem?_eq_some_iff.1 hi).1
  have h3 : (cur.toList.take xs.length)[i]? = some (.string x) := by rw [h2, List.getElem?_map, hi]; rfl
  rw [List.getElem?_take, if_pos hl] at h3
  rw [← Array.getElem?_toList]
  exact h3
theorem RowAt.below (h : RowAt W g xs) (hb : Below W.heap.size W W') : RowAt W' g xs := by
  obtain ⟨cur, h1, h2⟩ := h
  exact ⟨cur, blk_below h1 hb, h2⟩
theorem RowAt.alloc (h : RowAt W g xs) (o : Obj) : RowAt (W.alloc o) g xs := by
  obtain ⟨cur, h1, h2⟩ := h
  exact ⟨cur, blk_alloc h1 o, h2⟩
theorem RowAt.far (h : RowAt W g xs) {p : Addr} (hp : g ≠ p.block) (u : Value) : RowAt (W.setCell p u) g xs := by
  obtain ⟨cur, h1, h2⟩ := h
  exact ⟨cur, blk_far h1 hp u, h2⟩
theorem RowAt.put (h : RowAt W g xs) (i : Nat) (x : ByteArray) : RowAt (W.setCell ⟨g, i, none⟩ (.string x)) g (xs.set i x) := by
  obtain ⟨cur, h1, h2⟩ := h
  refine ⟨_, blk_set h1 i _, ?_⟩
  rw [Array.toList_setIfInBounds, List.length_set, List.take_set, h2, List.map_set]
theorem RowAt.lt (h : RowAt W g xs) : g < W.heap.size := by
  obtain ⟨cur, h1, _⟩ := h
  exact blk_lt h1
theorem RowAt.of_R {base n c : Nat} {ok : Nat → Prop} {v : Value} (h : Kd.R Kd.string 9 W base ok v xs) (hn : 0 < xs.length) : ∃ g c, v = .slice (some ⟨g, 0, none⟩) xs.length c ∧ base ≤ g ∧ RowAt W g xs := by
  have ho := Kd.own_of_R h
  rcases ho.2 with ⟨_, h2⟩ | ⟨g, cap, cur, h1, hb, hg, h3, h4, h5, h6⟩
  · omega
  · exact ⟨g, _, h1, hb, cur, hg, by rw [Nat.mul_one] at h6; exact h6⟩
end
/-! ### the cuts -/
theorem contains_at (c : UInt8) (q : ByteArray) (hq : q.size ≤ 100) (z : Nat) (hz : z ≤ q.size) (hend : z = q.size ∨ bt q (z : Int) = ((c.toNat : Nat) : Int)) (hno : ∀ j, j < z → bt q (j : Int) ≠ ((c.toNat : Nat) : Int)) : Ev (fun k => semver_zzContains.f k q ⟨#[c]⟩) (decide (z < q.size)) := by
  have hi := index_f c q (by omega) z hz hend hno
  unfold semver_zzContains.f
  refine Ev.bind hi ?_
  by_cases cz : z = q.size
  · rw [if_pos cz, decide_eq_false (by omega), decide_eq_false (by omega)]
    exact Ev.ok _
  · rw [if_neg cz, decide_eq_true (by omega), decide_eq_true (by omega)]
    exact Ev.ok _
theorem splitN2 (c : UInt8) (q : ByteArray) (hq : q.size ≤ 100) (z : Nat) (hz : z < q.size) (hc : bt q (z : Int) = ((c.toNat : Nat) : Int)) (hno : ∀ j, j < z → bt q (j : Int) ≠ ((c.toNat : Nat) : Int)) : Ev (fun k => semver_zzSplitN.f k q ⟨#[c]⟩ 2) [q.extract 0 z, q.extract (z + 1) q.size] := by
  unfold semver_zzSplitN.f
  refine Ev.neg (by decide) (splitN_more c 2 (by decide) (by decide) q hq [] (by decide) (by decide) z hz hc hno _ ?_)
  exact splitN_stop c 2 (by decide) (by decide) _ _ (by simp) (by simp)
theorem splitN3 (s : ByteArray) (hs : s.size ≤ 100) (x y : Nat) (hx : x < y) (hy : y < s.size) (dx : bt s (x : Int) = 46) (dy : bt s (y : Int) = 46) (fx : ∀ j, j < x → bt s (j : Int) ≠ 46) (fy : ∀ j, x < j → j < y → bt s (j : Int) ≠ 46) :
    Ev (fun k => semver_zzSplitN.f k s ⟨#[46]⟩ 3) [s.extract 0 x, s.extract (x + 1) y, s.extract (y + 1) s.size] := by
  unfold semver_zzSplitN.f
  refine Ev.neg (by decide) (splitN_more 46 3 (by decide) (by decide) s hs [] (by decide) (by decide) x (by omega) dx fx _ ?_)
  have hz : (s.extract (x + 1) s.size).size = s.size - (x + 1) := ext_size _ _ _ (Nat.le_refl _)
  refine splitN_more 46 3 (by decide) (by decide) _ (by omega) _ (by simp) (by simp) (y - (x + 1)) (by omega) (by rw [bt_ext s (x + 1) s.size (y - (x + 1)) (by omega), show x + 1 + (y - (x + 1)) = y by omega]; exact dy) (fun j hj => by rw [bt_ext s (x + 1) s.size j (by omega)]; exact fy (x + 1 + j) (by omega) (by omega)) _ ?_
  have := splitN_stop 46 3 (by decide) (by decide) (s.extract (y + 1) s.size) ([s.extract 0 x] ++ [s.extract (x + 1) y]) (by simp) (by simp)
  rw [hz, ext_ext s (x + 1) s.size _ _ (by omega), ext_ext s (x + 1) s.size _ _ (by omega), Nat.add_zero, show x + 1 + (y - (x + 1) + 1) = y + 1 by omega, show x + 1 + (s.size - (x + 1)) = s.size by omega, show x + 1 + (y - (x + 1)) = y by omega]
  exact this
theorem splitN3_one (s : ByteArray) (hs : s.size ≤ 100) (fx : ∀ j, j < s.size → bt s (j : Int) ≠ 46) : Ev (fun k => semver_zzSplitN.f k s ⟨#[46]⟩ 3) [s] := by
  unfold semver_zzSplitN.f
  exact Ev.neg (by decide) (splitN_none 46 3 (by decide) (by decide) s hs [] (by decide) (by decide) fx)
theorem splitN3_two (s : ByteArray) (hs : s.size ≤ 100) (x : Nat) (hx : x < s.size) (dx : bt s (x : Int) = 46) (fx : ∀ j, j < x → bt s (j : Int) ≠ 46) (fy : ∀ j, x < j → j < s.size → bt s (j : Int) ≠ 46) :
    Ev (fun k => semver_zzSplitN.f k s ⟨#[46]⟩ 3) [s.extract 0 x, s.extract (x + 1) s.size] := by
  unfold semver_zzSplitN.f
  refine Ev.neg (by decide) (splitN_more 46 3 (by decide) (by decide) s hs [] (by decide) (by decide) x (by omega) dx fx _ ?_)
  have hz : (s.extract (x + 1) s.size).size = s.size - (x + 1) := ext_size _ _ _ (Nat.le_refl _)
  exact splitN_none 46 3 (by decide) (by decide) _ (by omega) _ (by simp) (by simp) (fun j hj => by rw [bt_ext s (x + 1) s.size j (by omega)]; exact fy (x + 1 + j) (by omega) (by omega))
/-! ### segments as numbers -/
theorem parse_seg (t : ByteArray) (h : SegOk t) (hz : t.size ≤ 9) (W : World) : ∃ u, Calls Tryd.prog 59 #[.string t, .int .i64 10, .int .i64 64] W fun r w' => r = .returned (.tuple #[.int .u64 u, .nilIface]) ∧ Below W.heap.size W w' := by
  have hd : Dg t := h.2.1
  have hl := (dgL_iff t).1 hd
  have hp : 10 ^ t.data.toList.length ≤ 10 ^ 15 := Nat.pow_le_pow_right (by decide) (by rw [size_list]; omega)
  have h2 : Lib.parseUintB 64 t.data.toList = .ok (lv 0 t.data.toList) := by
    unfold Lib.parseUintB
    rw [if_neg, parse_lv _ _ hl (by omega)]
    intro h0
    have := size_list t
    rw [h0] at this
    have := h.1
    simp at *
    omega
  refine ⟨(lv 0 t.data.toList : Nat), (Tryd.strconv_ParseUint_10_at64_ok t (by omega) _ h2 W).mono ?_⟩
  rintro r w' ⟨rfl, hw⟩
  refine ⟨rfl, ?_⟩
  rcases hw with rfl | rfl
  · exact Below.refl _ _
  · exact bytes_below (Below.refl _ _) (Nat.le_refl _) _ _
theorem parse_emp (t : ByteArray) (hz : t.size = 0) (W : World) (hE : TabsE W) : Calls Tryd.prog 59 #[.string t, .int .i64 10, .int .i64 64] W fun r w' => ∃ u tp p, r = .returned (.tuple #[.int .u64 u, .iface tp p]) ∧ Below W.heap.size W w' := by
  obtain ⟨⟨a, b, h1⟩, _⟩ := hE
  have c1 := World.var?_cell (show Tryd.prog.globalNamed "strconv.ErrSyntax" = some 2 by kernel_rfl) h1 0
  have h0 : t.data.toList = [] := by
    have := size_list t
    rw [hz] at this
    exact List.length_eq_zero_iff.1 this
  have hq : (∀ u, Lib.parseUintB 64 t.data.toList ≠ .ok u) ∧ Lib.parseUintB 64 t.data.toList ≠ .range := by
    rw [h0]
    exact ⟨(by intro u h; cases h), (by intro h; cases h)⟩
  refine (Tryd.strconv_ParseUint_10_at64_syntax t (by omega) hq.1 hq.2 _ W (by simpa using c1) (.inr ⟨a, b, rfl⟩)).mono ?_
  rintro r w' ⟨N, rfl, _, _, hb⟩
  exact ⟨_, _, _, rfl, hb⟩
/-- What StrictNewVersion gives. -/
def StrictPost (s : ByteArray) (w : World) (e : Ending) (w' : World) : Prop :=
  (AnyForm s → ∃ q : Nat, e = .returned (.tuple #[.pointer (some ⟨q, 0, none⟩), .nilIface])) ∧ (¬ AnyForm s → ∃ ty v, e = .returned (.tuple #[.pointer none, .iface ty v])) ∧ Below w.heap.size w w'
set_option maxHeartbeats 3200000 in
set_option maxRecDepth 100000 in
theorem strict_call (s : ByteArray) (hs : s.size ≤ 100) (h9 : AnyForm s ∨ Dig9 s) (w : World) (hE : TabsE w) :
    Calls Tryd.prog 39 #[.string s] w (StrictPost s w) := by
  have HE0 := Lib.hid hE
  clear hE
  unfold StrictPost
  by_cases h0 : s.size = 0
  · have e0 : ((s.size : Int) == 0) = true := by rw [h0]; rfl
    have HNO := Lib.hid (no_form (s := s) (fun x y h1 h2 => by omega))
    clear h0 h9
    go_enter Tryd.func39, Tryd.ntmps39
    go_wp2
    go_ret2
    exact ⟨fun q => absurd q HNO.out, fun _ => ⟨_, _, rfl⟩, Below.refl _ _⟩
  have e0 : ((s.size : Int) == 0) = false := beq_eq_false_iff_ne.2 (by omega)
  have d1 : decide (256 < (s.size : Int)) = false := decide_eq_false (by omega)
  obtain ⟨x, _, x2, x3, x4⟩ := first_at s 46 s.size 0 (by omega)
  have fx : ∀ j, j < x → bt s (j : Int) ≠ 46 := fun j hj => x4 j (Nat.zero_le _) hj
  clear x4
  by_cases cx : x = s.size
  · obtain ⟨K, hK⟩ := splitN3_one s hs (fun j hj => fx j (by omega))
    have HSP := Lib.hid (semver_zzSplitN.calls K s ⟨#[46]⟩ 3 _ w (hK K (Nat.le_refl _)) trivial)
    have HNO := Lib.hid (no_form (s := s) (fun x1 y1 h1 h2 h3 _ => fx x1 (by omega) h3))
    clear hK
    go_enter Tryd.func39, Tryd.ntmps39
    go_wp2_with fail
    refine HSP.out.mono ?_
    rintro e w1 ⟨v, rfl, hr, hb⟩
    obtain ⟨g, c, hv, _, _⟩ := RowAt.of_R (n := 0) (c := 0) hr (by simp)
    rw [show [s].length = 1 from rfl] at hv
    subst hv
    have HB := Lib.hid hb
    clear hr hb HSP
    go_wp2
    go_ret2
    exact ⟨fun q => absurd q HNO.out, fun _ => ⟨_, _, rfl⟩, HB.out⟩
  have dx : bt s (x : Int) = 46 := by rcases x3 with q | q; exact absurd q cx; exact q.2
  obtain ⟨y, y1, y2, y3, y4⟩ := first_at s 46 (s.size - (x + 1)) (x + 1) (by omega)
  have fy : ∀ j, x < j → j < y → bt s (j : Int) ≠ 46 := fun j h1 h2 => y4 j (by omega) h2
  clear y4 x3
  by_cases cy : y = s.size
  · obtain ⟨K, hK⟩ := splitN3_two s hs x (by omega) dx fx (fun j h1 h2 => fy j h1 (by omega))
    have HSP := Lib.hid (semver_zzSplitN.calls K s ⟨#[46]⟩ 3 _ w (hK K (Nat.le_refl _)) trivial)
    have HNO := Lib.hid (no_form (s := s) (fun x1 y1 h1 h2 h3 h4 => by
        have q1 : x ≤ x1 := Nat.le_of_not_lt (fun q => fx x1 q h3)
        exact fy y1 (by omega) (by omega) h4))
    clear hK
    go_enter Tryd.func39, Tryd.ntmps39
    go_wp2_with fail
    refine HSP.out.mono ?_
    rintro e w1 ⟨v, rfl, hr, hb⟩
    obtain ⟨g, c, hv, _, _⟩ := RowAt.of_R (n := 0) (c := 0) hr (by simp)
    rw [show [s.extract 0 x, s.extract (x + 1) s.size].length = 2 from rfl] at hv
    subst hv
    have HB := Lib.hid hb
    clear hr hb HSP
    go_wp2
    go_ret2
    exact ⟨fun q => absurd q HNO.out, fun _ => ⟨_, _, rfl⟩, HB.out⟩
  have dy : bt s (y : Int) = 46 := by rcases y3 with q | q; exact absurd q cy; exact q.2
  have yl : y < s.size := by omega
  clear y3 cx cy
  obtain ⟨K, hK⟩ := splitN3 s hs x y (by omega) yl dx dy fx fy
  have HSP := Lib.hid (semver_zzSplitN.calls K s ⟨#[46]⟩ 3 _ w (hK K (Nat.le_refl _)) trivial)
  clear hK
  -- the plus sign
  obtain ⟨m, m1, m2, m3, m4⟩ := first_at s 43 (s.size - (y + 1)) (y + 1) (by omega)
  obtain ⟨R, hR⟩ : ∃ R, R = s.extract (y + 1) s.size := ⟨_, rfl⟩
  have hRz : R.size = s.size - (y + 1) := by rw [hR]; exact ext_size _ _ _ (Nat.le_refl _)
  have hRb : ∀ j, y + 1 + j < s.size → bt R (j : Int) = bt s ((y + 1 + j : Nat) : Int) := fun j hj => by rw [hR]; exact bt_ext s (y + 1) s.size j hj
  have hR43 : m - (y + 1) = R.size ∨ bt R ((m - (y + 1) : Nat) : Int) = 43 := by
    rcases m3 with q | q
    · exact .inl (by omega)
    · refine .inr ?_
      rw [hRb _ (by omega), show y + 1 + (m - (y + 1)) = m by omega]
      exact q.2
  have fR43 : ∀ j, j < m - (y + 1) → bt R (j : Int) ≠ 43 := fun j hj => by
    rw [hRb j (by omega)]
    exact m4 (y + 1 + j) (by omega) (by omega)
  obtain ⟨K1, hK1⟩ := contains_at 43 R (by omega) (m - (y + 1)) (by omega) hR43 fR43
  have HCP := Lib.hid (fun W => semver_zzContains.calls K1 R ⟨#[43]⟩ _ W (hK1 K1 (Nat.le_refl _)))
  clear hK1
  -- the hyphen
  obtain ⟨R1, hR1⟩ : ∃ R1, R1 = s.extract (y + 1) m := ⟨_, rfl⟩
  have hR1z : R1.size = m - (y + 1) := by rw [hR1]; exact ext_size _ _ _ m2
  obtain ⟨z, _, z2, z3, z4⟩ := first_at R1 45 R1.size 0 (by omega)
  have fz1 : ∀ j, j < z → bt R1 (j : Int) ≠ 45 := fun j hj => z4 j (Nat.zero_le _) hj
  have dz1 : z = R1.size ∨ bt R1 (z : Int) = 45 := z3.imp id And.right
  clear z3 z4
  have hR1b : ∀ j, y + 1 + j < m → bt R1 (j : Int) = bt s ((y + 1 + j : Nat) : Int) := fun j hj => by rw [hR1]; exact bt_ext s (y + 1) m j hj
  obtain ⟨K2, hK2⟩ := contains_at 45 R1 (by omega) z z2 dz1 fz1
  have HCD := Lib.hid (fun W => semver_zzContains.calls K2 R1 ⟨#[45]⟩ _ W (hK2 K2 (Nat.le_refl _)))
  clear hK2
  have HCUT := Lib.hid (show Cut s x y (y + 1 + z) m from ⟨hs, by omega, yl, dx, dy, fx, fy, by omega, m2, by rcases m3 with q | q; exact .inl q; exact .inr q.2, fun j h1 h2 => m4 j (by omega) h2, by omega, by omega, by
    rcases dz1 with q | q
    · exact .inl (by omega)
    · by_cases q2 : z = R1.size
      · exact .inl (by omega)
      · rw [hR1b z (by omega)] at q
        exact .inr q, fun j h1 h2 => by
    have := fz1 (j - (y + 1)) (by omega)
    rw [hR1b _ (by omega), show y + 1 + (j - (y + 1)) = j by omega] at this
    exact this⟩)
  obtain ⟨R2, hR2⟩ : ∃ R2, R2 = s.extract (y + 1) (y + 1 + z) := ⟨_, rfl⟩
  have h99 := HCUT.out.nine h9
  have HIFF := Lib.hid (HCUT.out.form_iff h99)
  rw [← hR2] at HIFF
  have hR2e : R1.extract 0 z = R2 := by rw [hR1, hR2, ext_ext s (y + 1) m 0 z (by omega), Nat.add_zero]
  have hR1e : R.extract 0 (m - (y + 1)) = R1 := by rw [hR, hR1, ext_ext s (y + 1) s.size _ _ (by omega), Nat.add_zero, show y + 1 + (m - (y + 1)) = m by omega]
  obtain ⟨mt, hmt⟩ : ∃ mt, mt = s.extract (m + 1) s.size := ⟨_, rfl⟩
  obtain ⟨pre, hpre⟩ : ∃ pre, pre = s.extract (y + 1 + z + 1) m := ⟨_, rfl⟩
  have hmte : R.extract (m - (y + 1) + 1) R.size = mt := by
    by_cases q : m < s.size
    · rw [hRz, hR, hmt, ext_ext s (y + 1) s.size _ _ (by omega), show y + 1 + (m - (y + 1) + 1) = m + 1 by omega, show y + 1 + (s.size - (y + 1)) = s.size by omega]
    · have e1 : m = s.size := by omega
      apply ba_ext
      rw [extract_list, hmt, extract_list, List.drop_of_length_le (by rw [size_list]; omega), List.drop_of_length_le (by rw [size_list]; omega)]
      simp
  have hpree : R1.extract (z + 1) R1.size = pre := by
    by_cases q : z < R1.size
    · rw [hR1z, hR1, hpre, ext_ext s (y + 1) m _ _ (by omega), show y + 1 + (z + 1) = y + 1 + z + 1 by omega, show y + 1 + (m - (y + 1)) = m by omega]
    · apply ba_ext
      rw [extract_list, hpre, extract_list, List.drop_of_length_le (by rw [size_list]; omega), show m - (y + 1 + z + 1) = 0 by omega, List.take_zero, List.take_nil]
  have HPFM := Lib.hid (fun (q : m < s.size) => show PF mt false mt.size 0 ↔ PF s false s.size (m + 1) by rw [hmt]; exact PF_off (by omega) (Nat.le_refl _))
  have HPFP := Lib.hid (fun (q : z < R1.size) => show PF pre true pre.size 0 ↔ PF s true m (y + 1 + z + 1) by rw [hpre]; exact PF_off (by omega) m2)
  have hmtz : mt.size ≤ 100 := by rw [hmt, ByteArray.size_extract]; omega
  have hprez : pre.size ≤ 100 := by rw [hpre, ByteArray.size_extract]; omega
  have HSPM := Lib.hid (fun (q : m - (y + 1) < R.size) (W : World) => show Calls Tryd.prog 54 #[.string R, .string ⟨#[43]⟩, .int .i64 2] W fun e w' => ∃ g c, e = .returned (.slice (some ⟨g, 0, none⟩) 2 c) ∧ W.heap.size ≤ g ∧ RowAt w' g [R1, mt] ∧ Below W.heap.size W w' from by
    obtain ⟨K3, hK3⟩ := splitN2 43 R (by omega) (m - (y + 1)) q (hR43.resolve_left (by omega)) fR43
    rw [hR1e, hmte] at hK3
    refine (semver_zzSplitN.calls K3 R ⟨#[43]⟩ 2 _ W (hK3 K3 (Nat.le_refl _)) trivial).mono ?_
    rintro e w' ⟨v, rfl, hr, hb⟩
    obtain ⟨g, c, hv, hg, hR⟩ := RowAt.of_R (n := 0) (c := 0) hr (by simp)
    exact ⟨g, c, by rw [hv]; rfl, hg, hR, hb⟩)
  have HSPP := Lib.hid (fun (q : z < R1.size) (W : World) => show Calls Tryd.prog 54 #[.string R1, .string ⟨#[45]⟩, .int .i64 2] W fun e w' => ∃ g c, e = .returned (.slice (some ⟨g, 0, none⟩) 2 c) ∧ W.heap.size ≤ g ∧ RowAt w' g [R2, pre] ∧ Below W.heap.size W w' from by
    obtain ⟨K3, hK3⟩ := splitN2 45 R1 (by omega) z q (dz1.resolve_left (by omega)) fz1
    rw [hR2e, hpree] at hK3
    refine (semver_zzSplitN.calls K3 R1 ⟨#[45]⟩ 2 _ W (hK3 K3 (Nat.le_refl _)) trivial).mono ?_
    rintro e w' ⟨v, rfl, hr, hb⟩
    obtain ⟨g, c, hv, hg, hR⟩ := RowAt.of_R (n := 0) (c := 0) hr (by simp)
    exact ⟨g, c, by rw [hv]; rfl, hg, hR, hb⟩)
  have HL : Hid ([s.extract 0 x, s.extract (x + 1) y, R2].length = 3) := Lib.hid rfl
  have HSZ := Lib.hid (show ∀ t ∈ [s.extract 0 x, s.extract (x + 1) y, R2], t.size ≤ 100 by
    intro t ht
    simp only [List.mem_cons, List.not_mem_nil, or_false] at ht
    rcases ht with rfl | rfl | rfl
    · rw [ByteArray.size_extract]; omega
    · rw [ByteArray.size_extract]; omega
    · rw [hR2, ByteArray.size_extract]; omega)
  have HD9 := Lib.hid (show ∀ t ∈ [s.extract 0 x, s.extract (x + 1) y, R2], (∀ j : Nat, j < t.size → isD (bt t (j : Int))) → t.size ≤ 9 by
    have key : ∀ a b : Nat, a ≤ b → b ≤ s.size → Nine s a b → (∀ j : Nat, j < (s.extract a b).size → isD (bt (s.extract a b) (j : Int))) → (s.extract a b).size ≤ 9 := fun a b h1 h2 h9 h3 => by
      have := h9 (fun j q1 q2 => by
        have h4 := h3 (j - a) (by rw [ext_size _ _ _ h2]; omega)
        rw [bt_ext s a b (j - a) (by omega), show a + (j - a) = j by omega] at h4
        exact h4)
      rw [ext_size _ _ _ h2]
      omega
    intro t ht
    simp only [List.mem_cons, List.not_mem_nil, or_false] at ht
    rcases ht with rfl | rfl | rfl
    · exact key 0 x (by omega) (by omega) h99.1
    · exact key (x + 1) y (by omega) (by omega) h99.2.1
    · rw [hR2]; exact key (y + 1) (y + 1 + z) (by omega) (by omega) h99.2.2)
  have HSEG := Lib.hid (show AnyForm s → ∀ t ∈ [s.extract 0 x, s.extract (x + 1) y, R2], SegOk t from fun q t ht => by
    obtain ⟨g1, g2, g3, _, _⟩ := HIFF.out.1 q
    simp only [List.mem_cons, List.not_mem_nil, or_false] at ht
    rcases ht with rfl | rfl | rfl
    · exact g1
    · exact g2
    · exact g3)
  have HFIN0 := Lib.hid (fun (p1 : z < R1.size → PF s true m (y + 1 + z + 1)) (p2 : m < s.size → PF s false s.size (m + 1)) (q : ∀ t ∈ [s.extract 0 x, s.extract (x + 1) y, R2], SegOk t) => HIFF.out.2 ⟨q _ (by simp), q _ (by simp), q _ (by simp), fun r => p1 (by omega), p2⟩)
  have HNOP := Lib.hid (fun (q : z < R1.size) (h : ¬ PF s true m (y + 1 + z + 1)) (q2 : AnyForm s) => h ((HIFF.out.1 q2).2.2.2.1 (by omega)))
  have HNOM := Lib.hid (fun (q : m < s.size) (h : ¬ PF s false s.size (m + 1)) (q2 : AnyForm s) => h ((HIFF.out.1 q2).2.2.2.2 q))
  have hqm : m - (y + 1) < R.size ↔ m < s.size := by omega
  generalize s.extract 0 x = P0 at *
  generalize s.extract (x + 1) y = P1 at *
  rw [← hR] at HSP
  have hRmz : m = s.size → R = R1 := fun q => by rw [hR, hR1, q]
  have hRtw : z = R1.size → R1 = R2 := fun q => by rw [hR1, hR2]; congr 1; omega
  clear hR43 fR43 hRb hR1b dz1 fz1 hR1e hR2e hmte hpree hmt hpre hR hR1 hR2 HIFF HCUT fx fy dx dy m4 m3 h9 h99 x2 y1 y2 yl
  go_enter Tryd.func39, Tryd.ntmps39
  go_wp2_with fail
  refine HSP.out.mono ?_
  rintro e w1 ⟨v, rfl, hr, hb⟩
  obtain ⟨g, cc, hv, hg0, hrow⟩ := RowAt.of_R (n := 0) (c := 0) hr (by simp)
  rw [show [P0, P1, R].length = 3 from rfl] at hv
  subst hv
  have HB1 := Lib.hid hb
  have HR1 := Lib.hid hrow
  clear hr hb hrow HSP
  go_upto_region 9 with fail
  have HB2 := Lib.hid (HB1.out.alloc HB1.out.size (.cells #[.int .u64 0, .int .u64 0, .int .u64 0, .string ⟨#[]⟩, .string ⟨#[]⟩, .string s] 69))
  have HK2 := Lib.hid (heap_alloc_new w1 (.cells #[.int .u64 0, .int .u64 0, .int .u64 0, .string ⟨#[]⟩, .string ⟨#[]⟩, .string s] 69))
  have HR2 := Lib.hid (HR1.out.alloc (.cells #[.int .u64 0, .int .u64 0, .int .u64 0, .string ⟨#[]⟩, .string ⟨#[]⟩, .string s] 69))
  have hq : w.heap.size ≤ w1.heap.size := HB1.out.size
  have hgq : g ≠ w1.heap.size := Nat.ne_of_lt HR1.out.lt
  have HQS := Lib.hid (show w1.heap.size < (w1.alloc (.cells #[.int .u64 0, .int .u64 0, .int .u64 0, .string ⟨#[]⟩, .string ⟨#[]⟩, .string s] 69)).heap.size from blk_lt HK2.out)
  clear HB1 HR1
  generalize w1.alloc (.cells #[.int .u64 0, .int .u64 0, .int .u64 0, .string ⟨#[]⟩, .string ⟨#[]⟩, .string s] 69) = w2 at *
  generalize w1.heap.size = q at *
  have q2 := (HR2.out.cell 2 R rfl).1
  go_wp2_with fail
  refine (HCP.out _).mono ?_
  rintro e w3 ⟨rfl, hd3⟩
  have HB3 := Lib.hid (HB2.out.trans (hd3.below.mono HB2.out.size))
  have HK3 := Lib.hid (blk_below HK2.out hd3.below)
  have HR3 := Lib.hid (HR2.out.below hd3.below)
  have HQS3 := Lib.hid (Nat.lt_of_lt_of_le HQS.out hd3.below.size)
  clear hd3 HB2 HK2 HR2 HQS q2 HCP
  by_cases cm : m < s.size
  · rw [decide_eq_true (hqm.2 cm)]
    have q2 := (HR3.out.cell 2 R rfl).1
    go_wp2_with fail
    refine (HSPM.out (hqm.2 cm) _).mono ?_
    rintro e w4 ⟨k, ck, rfl, hk, hrow, hb4⟩
    have HB4 := Lib.hid (HB3.out.trans (hb4.mono HB3.out.size))
    have HK4 := Lib.hid (blk_below HK3.out hb4)
    have HR4 := Lib.hid (HR3.out.below hb4)
    have HX4 := Lib.hid hrow
    have HQ4 := Lib.hid (Nat.lt_of_lt_of_le HQS3.out hb4.size)
    have hkq : k ≠ q := by have := HQS3.out; omega
    have hgk : g ≠ k := by have := HR3.out.lt; omega
    clear hb4 hrow hk HB3 HK3 HR3 HQS3 q2
    have q1 := (HX4.out.cell 1 mt rfl).1
    have xz : w4.cell? ⟨q, 4, none⟩ = some (.string ⟨#[]⟩) := by rw [blk_cell HK4.out 4]; rfl
    have fz := blk_frozen HK4.out 4
    go_upto_region 12 with fail
    have HB5 := Lib.hid (HB4.out.setCell (p := ⟨q, 4, none⟩) hq (.string mt))
    have HK5 := Lib.hid (show (w4.setCell ⟨q, 4, none⟩ (.string mt)).heap[q]? = some (.cells #[.int .u64 0, .int .u64 0, .int .u64 0, .string ⟨#[]⟩, .string mt, .string s] 69 (0, 0)) from blk_set HK4.out 4 (.string mt))
    have HR5 := Lib.hid (HR4.out.far (p := ⟨q, 4, none⟩) hgq (.string mt))
    have HX5 := Lib.hid (HX4.out.far (p := ⟨q, 4, none⟩) hkq (.string mt))
    have HQ5 := Lib.hid (show q < (w4.setCell ⟨q, 4, none⟩ (.string mt)).heap.size from blk_lt HK5.out)
    clear HB4 HK4 HR4 HX4 HQ4 q1 xz fz
    generalize w4.setCell ⟨q, 4, none⟩ (.string mt) = w5 at *
    have q0 := (HX5.out.cell 0 R1 rfl).1
    obtain ⟨xg, fg⟩ := HR5.out.cell 2 R rfl
    go_upto_region 13 with fail
    have HB6 := Lib.hid (HB5.out.setCell (p := ⟨g, 2, none⟩) hg0 (.string R1))
    have HK6 := Lib.hid (blk_far HK5.out (p := ⟨g, 2, none⟩) (Ne.symm hgq) (.string R1))
    have HR6 := Lib.hid (show RowAt (w5.setCell ⟨g, 2, none⟩ (.string R1)) g [P0, P1, R1] from HR5.out.put 2 R1)
    have HQ6 := Lib.hid (show q < (w5.setCell ⟨g, 2, none⟩ (.string R1)).heap.size from blk_lt HK6.out)
    clear HB5 HK5 HR5 HX5 HQ5 q0 xg fg
    generalize w5.setCell ⟨g, 2, none⟩ (.string R1) = w6 at *
    have x4 : w6.cell? ⟨q, 4, none⟩ = some (.string mt) := by rw [blk_cell HK6.out 4]; rfl
    by_cases hM : PF mt false mt.size 0
    · have HVM := Lib.hid (validMeta mt hmtz hM w6)
      have HPM := Lib.hid (fun (_ : m < s.size) => (HPFM.out cm).1 hM)
      clear hM HNOM HSPM HPFM
      go_wp2_with fail
      refine HVM.out.mono ?_
      rintro e w7 ⟨rfl, hb7⟩
      have HB7 := Lib.hid (HB6.out.trans (hb7.mono HB6.out.size))
      have HK7 := Lib.hid (blk_below HK6.out hb7)
      have HR7 := Lib.hid (HR6.out.below hb7)
      have HQ7 := Lib.hid (Nat.lt_of_lt_of_le HQ6.out hb7.size)
      clear hb7 HB6 HK6 HR6 HQ6 x4 HVM hkq hgk
      have q2 := (HR7.out.cell 2 R1 rfl).1
      go_wp2_with fail
      refine (HCD.out _).mono ?_
      rintro e w8 ⟨rfl, hd8⟩
      have HB8 := Lib.hid (HB7.out.trans (hd8.below.mono HB7.out.size))
      have HK8 := Lib.hid (blk_below HK7.out hd8.below)
      have HR8 := Lib.hid (HR7.out.below hd8.below)
      have HQ8 := Lib.hid (Nat.lt_of_lt_of_le HQ7.out hd8.below.size)
      clear hd8 HB7 HK7 HR7 HQ7 q2 HCD
      by_cases cz : z < R1.size
      · rw [decide_eq_true cz]
        have q2 := (HR8.out.cell 2 R1 rfl).1
        go_wp2_with fail
        refine (HSPP.out cz _).mono ?_
        rintro e w9 ⟨k, ck, rfl, hk, hrow, hb9⟩
        have HB9 := Lib.hid (HB8.out.trans (hb9.mono HB8.out.size))
        have HK9 := Lib.hid (blk_below HK8.out hb9)
        have HR9 := Lib.hid (HR8.out.below hb9)
        have HX9 := Lib.hid hrow
        have hkq : k ≠ q := by have := HQ8.out; omega
        have hgk : g ≠ k := by have := HR8.out.lt; omega
        clear hb9 hrow hk HB8 HK8 HR8 HQ8 q2
        have q1 := (HX9.out.cell 1 pre rfl).1
        have xz : w9.cell? ⟨q, 3, none⟩ = some (.string ⟨#[]⟩) := by rw [blk_cell HK9.out 3]; rfl
        have fz := blk_frozen HK9.out 3
        go_upto_region 19 with fail
        have HBA := Lib.hid (HB9.out.setCell (p := ⟨q, 3, none⟩) hq (.string pre))
        have HKA := Lib.hid (show (w9.setCell ⟨q, 3, none⟩ (.string pre)).heap[q]? = some (.cells #[.int .u64 0, .int .u64 0, .int .u64 0, .string pre, .string mt, .string s] 69 (0, 0)) from blk_set HK9.out 3 (.string pre))
        have HRA := Lib.hid (HR9.out.far (p := ⟨q, 3, none⟩) hgq (.string pre))
        have HXA := Lib.hid (HX9.out.far (p := ⟨q, 3, none⟩) hkq (.string pre))
        clear HB9 HK9 HR9 HX9 q1 xz fz
        generalize w9.setCell ⟨q, 3, none⟩ (.string pre) = wA at *
        have q0 := (HXA.out.cell 0 R2 rfl).1
        obtain ⟨xg, fg⟩ := HRA.out.cell 2 R1 rfl
        go_upto_region 20 with fail
        have HBC := Lib.hid (HBA.out.setCell (p := ⟨g, 2, none⟩) hg0 (.string R2))
        have HKC := Lib.hid (blk_far HKA.out (p := ⟨g, 2, none⟩) (Ne.symm hgq) (.string R2))
        have HRC := Lib.hid (show RowAt (wA.setCell ⟨g, 2, none⟩ (.string R2)) g [P0, P1, R2] from HRA.out.put 2 R2)
        clear HBA HKA HRA HXA q0 xg fg
        generalize wA.setCell ⟨g, 2, none⟩ (.string R2) = wC at *
        have x3 : wC.cell? ⟨q, 3, none⟩ = some (.string pre) := by rw [blk_cell HKC.out 3]; rfl
        by_cases hP : PF pre true pre.size 0
        · have HVP := Lib.hid (validPre pre hprez hP wC)
          have HFIN := Lib.hid (fun r => HFIN0.out (fun _ => (HPFP.out cz).1 hP) HPM.out r)
          clear hP HFIN0 HPFP HNOP HSPP
          go_wp2_with fail
          refine HVP.out.mono ?_
          rintro e wT ⟨rfl, hbT⟩
          have HBW := Lib.hid (HBC.out.trans (hbT.mono HBC.out.size))
          have HBK := Lib.hid (blk_below HKC.out hbT)
          have HR := Lib.hid (HRC.out.below hbT)
          clear hbT HBC HKC HRC x3 HVP
          generalize hLL : [P0, P1, R2] = L at *
          go_wp2
          go_loopw [11, 86] (fun y i wr => ∃ (k : Nat) (yv : Value), yv = y ∧ i = .int .i64 k ∧ k ≤ 3 ∧ Hid (Below w.heap.size w wr) ∧ Hid (RowAt wr g L) ∧ Hid (wr.heap[q]? = some (.cells #[.int .u64 0, .int .u64 0, .int .u64 0, .string pre, .string mt, .string s] 69 (0, 0))) ∧ Hid (∀ t ∈ L.take k, (∀ j : Nat, j < t.size → isD (bt t (j : Int))) ∧ (t.size ≤ 1 ∨ bt t 0 ≠ 48))) (fun _ i _ => 3 - (intOf i).toNat)
          case atStart => exact ⟨0, _, rfl, rfl, Nat.zero_le _, HBW, HR, HBK, Lib.hid (fun t ht => by simp at ht)⟩
          case round =>
            clear HBW HR HBK
            obtain ⟨k, yv, rfl, rfl, hk, hW, hR, hB, hX⟩ := hrel
            by_cases ck : k < 3
            · obtain ⟨t, ht⟩ : ∃ t, t = L[k]'(by rw [HL.out]; exact ck) := ⟨_, rfl⟩
              have HTM := Lib.hid (show t ∈ L by rw [ht]; exact List.getElem_mem _)
              have htz := HSZ.out t HTM.out
              have q1 := (hR.out.cell k t (by rw [ht]; exact List.getElem?_eq_getElem _)).1
              have HX2 := Lib.hid (fun (z : (∀ j : Nat, j < t.size → isD (bt t (j : Int))) ∧ (t.size ≤ 1 ∨ bt t 0 ≠ 48)) => take_more (Q := fun t => (∀ j : Nat, j < t.size → isD (bt t (j : Int))) ∧ (t.size ≤ 1 ∨ bt t 0 ≠ 48)) (by rw [HL.out]; exact ck) hX.out (by rw [← ht]; exact z))
              have HNUM := Lib.hid (fun W => only_any t numT (by omega) num_ascii (by decide) W)
              have HMV := Lib.hid (fun (W : World) (hb : Below wr.heap.size wr W) => show Below w.heap.size w W ∧ RowAt W g L ∧ W.heap[q]? = some (.cells #[.int .u64 0, .int .u64 0, .int .u64 0, .string pre, .string mt, .string s] 69 (0, 0)) from ⟨hW.out.trans (hb.mono hW.out.size), hR.out.below hb, blk_below hB.out hb⟩)
              clear ht hX hW hR hB
              by_cases hD : ∀ j : Nat, j < t.size → isD (bt t (j : Int))
              · rw [decide_eq_true ((only_D t).2 hD)] at HNUM
                by_cases c1 : 1 < t.size
                · have c1b : decide (1 < (t.size : Int)) = true := decide_eq_true (by omega)
                  have hz0 : 0 < t.size := by omega
                  by_cases h48 : (((t[0]'hz0).toNat : Nat) : Int) = 48
                  · have h48b : ((((t[0]'hz0).toNat : Nat) : Int) == 48) = true := by rw [h48]; rfl
                    have HNO := Lib.hid (show ¬ AnyForm s from fun z => by
                      have h2 := (HSEG.out z t HTM.out).2.2
                      rw [show bt t 0 = ((((t[0]'hz0).toNat : Nat) : Int)) from bt_nat t 0 hz0] at h2
                      rcases h2 with h2 | h2
                      · omega
                      · exact h2 h48)
                    clear hD HX2 h48 HTM
                    go_wp2_with fail
                    refine (HNUM.out _).mono ?_
                    rintro e w13 ⟨rfl, hb13⟩
                    have HMW := Lib.hid (HMV.out _ hb13)
                    clear hb13 HNUM HMV q1
                    go_wp2
                    go_ret2
                    exact ⟨fun q => absurd q HNO.out, fun _ => ⟨_, _, rfl⟩, HMW.out.1⟩
                  · have h48b : ((((t[0]'hz0).toNat : Nat) : Int) == 48) = false := beq_eq_false_iff_ne.2 h48
                    have HX3 := Lib.hid (HX2.out ⟨hD, .inr (by rw [show bt t 0 = ((((t[0]'hz0).toNat : Nat) : Int)) from bt_nat t 0 hz0]; exact h48)⟩)
                    clear hD HX2 h48 HTM
                    go_wp2_with fail
                    refine (HNUM.out _).mono ?_
                    rintro e w13 ⟨rfl, hb13⟩
                    have HMW := Lib.hid (HMV.out _ hb13)
                    clear hb13 HNUM HMV q1
                    go_wp2
                    go_roundw
                    case rel => exact ⟨k + 1, _, rfl, by go_num, by omega, Lib.hid HMW.out.1, Lib.hid HMW.out.2.1, Lib.hid HMW.out.2.2, HX3⟩
                    case measure => simp [intOf]; omega
                · have c1b : decide (1 < (t.size : Int)) = false := decide_eq_false (by omega)
                  have HX3 := Lib.hid (HX2.out ⟨hD, .inl (by omega)⟩)
                  clear hD HX2 HTM
                  go_wp2_with fail
                  refine (HNUM.out _).mono ?_
                  rintro e w13 ⟨rfl, hb13⟩
                  have HMW := Lib.hid (HMV.out _ hb13)
                  clear hb13 HNUM HMV q1
                  go_wp2
                  go_roundw
                  case rel => exact ⟨k + 1, _, rfl, by go_num, by omega, Lib.hid HMW.out.1, Lib.hid HMW.out.2.1, Lib.hid HMW.out.2.2, HX3⟩
                  case measure => simp [intOf]; omega
              · rw [decide_eq_false (fun q => hD ((only_D t).1 q))] at HNUM
                have HNO := Lib.hid (show ¬ AnyForm s from fun z => hD (HSEG.out z t HTM.out).2.1)
                clear hD HX2 HTM
                go_wp2_with fail
                refine (HNUM.out _).mono ?_
                rintro e w13 ⟨rfl, hb13⟩
                have HMW := Lib.hid (HMV.out _ hb13)
                clear hb13 HNUM HMV q1
                go_wp2
                go_ret2
                exact ⟨fun q => absurd q HNO.out, fun _ => ⟨_, _, rfl⟩, HMW.out.1⟩
            · obtain rfl : k = 3 := by omega
              obtain ⟨P0, P1, P2, rfl⟩ : ∃ P0 P1 P2, L = [P0, P1, P2] := by
                have h := HL.out
                match L, h with
                | [a, b, c], _ => exact ⟨a, b, c, rfl⟩
              have HALL := Lib.hid (show ∀ t ∈ [P0, P1, P2], (∀ j : Nat, j < t.size → isD (bt t (j : Int))) ∧ (t.size ≤ 1 ∨ bt t 0 ≠ 48) from hX.out)
              have HP0 := Lib.hid (HALL.out P0 (by simp))
              have HP1 := Lib.hid (HALL.out P1 (by simp))
              have HP2 := Lib.hid (HALL.out P2 (by simp))
              have q0 := (hR.out.cell 0 P0 rfl).1
              clear hX HALL
              by_cases hz0 : P0.size = 0
              · have HNO := Lib.hid (show ¬ AnyForm s from fun z => by have h2 := (HSEG.out z P0 (by simp)).1; omega)
                have HPU := Lib.hid (parse_emp P0 hz0 wr (HE0.out.below hW.out))
                go_wp2_with fail
                refine HPU.out.mono ?_
                rintro e w20 ⟨u0, ty, v, rfl, hb20⟩
                have HC20 := Lib.hid (hW.out.trans (hb20.mono hW.out.size))
                have HK20 := Lib.hid (blk_below hB.out hb20)
                have HRR20 := Lib.hid (hR.out.below hb20)
                have cz : w20.cell? ⟨q, 0, none⟩ = some (.int .u64 0) := by rw [blk_cell HK20.out 0]; rfl
                have fz := blk_frozen HK20.out 0
                clear hb20 HPU q0 hW hB hR
                go_upto_region 33 with fail
                have HD20 := Lib.hid (HC20.out.setCell (p := ⟨q, 0, none⟩) hq (.int .u64 u0))
                have HBK20 := Lib.hid (show (w20.setCell ⟨q, 0, none⟩ (.int .u64 u0)).heap[q]? = some (.cells #[.int .u64 u0, .int .u64 0, .int .u64 0, .string pre, .string mt, .string s] 69 (0, 0)) from blk_set HK20.out 0 (.int .u64 u0))
                have HRW20 := Lib.hid (HRR20.out.far (p := ⟨q, 0, none⟩) hgq (.int .u64 u0))
                clear HC20 HK20 HRR20 cz fz
                generalize w20.setCell ⟨q, 0, none⟩ (.int .u64 u0) = w21 at *
                go_wp2
                go_ret2
                exact ⟨fun q => absurd q HNO.out, fun _ => ⟨_, _, rfl⟩, HD20.out⟩
              have HS0 := Lib.hid (show SegOk P0 from ⟨Nat.pos_of_ne_zero hz0, HP0.out.1, HP0.out.2⟩)
              obtain ⟨u0, hpu⟩ := parse_seg P0 HS0.out (HD9.out P0 (by simp) HP0.out.1) wr
              have HPU := Lib.hid hpu
              clear hpu hz0 HP0
              go_wp2_with fail
              refine HPU.out.mono ?_
              rintro e w20 ⟨rfl, hb20⟩
              have HC20 := Lib.hid (hW.out.trans (hb20.mono hW.out.size))
              have HK20 := Lib.hid (blk_below hB.out hb20)
              have HRR20 := Lib.hid (hR.out.below hb20)
              have cz : w20.cell? ⟨q, 0, none⟩ = some (.int .u64 0) := by rw [blk_cell HK20.out 0]; rfl
              have fz := blk_frozen HK20.out 0
              clear hb20 HPU q0 hW hB hR
              go_upto_region 33 with fail
              have HD20 := Lib.hid (HC20.out.setCell (p := ⟨q, 0, none⟩) hq (.int .u64 u0))
              have HBK20 := Lib.hid (show (w20.setCell ⟨q, 0, none⟩ (.int .u64 u0)).heap[q]? = some (.cells #[.int .u64 u0, .int .u64 0, .int .u64 0, .string pre, .string mt, .string s] 69 (0, 0)) from blk_set HK20.out 0 (.int .u64 u0))
              have HRW20 := Lib.hid (HRR20.out.far (p := ⟨q, 0, none⟩) hgq (.int .u64 u0))
              clear HC20 HK20 HRR20 cz fz
              generalize w20.setCell ⟨q, 0, none⟩ (.int .u64 u0) = w21 at *
              have q1 := (HRW20.out.cell 1 P1 rfl).1
              by_cases hz1 : P1.size = 0
              · have HNO := Lib.hid (show ¬ AnyForm s from fun z => by have h2 := (HSEG.out z P1 (by simp)).1; omega)
                have HPU := Lib.hid (parse_emp P1 hz1 w21 (HE0.out.below HD20.out))
                go_wp2_with fail
                refine HPU.out.mono ?_
                rintro e w22 ⟨u1, ty, v, rfl, hb22⟩
                have HC22 := Lib.hid (HD20.out.trans (hb22.mono HD20.out.size))
                have HK22 := Lib.hid (blk_below HBK20.out hb22)
                have HRR22 := Lib.hid (HRW20.out.below hb22)
                have cz : w22.cell? ⟨q, 1, none⟩ = some (.int .u64 0) := by rw [blk_cell HK22.out 1]; rfl
                have fz := blk_frozen HK22.out 1
                clear hb22 HPU q1 HD20 HBK20 HRW20
                go_upto_region 36 with fail
                have HD22 := Lib.hid (HC22.out.setCell (p := ⟨q, 1, none⟩) hq (.int .u64 u1))
                have HBK22 := Lib.hid (show (w22.setCell ⟨q, 1, none⟩ (.int .u64 u1)).heap[q]? = some (.cells #[.int .u64 u0, .int .u64 u1, .int .u64 0, .string pre, .string mt, .string s] 69 (0, 0)) from blk_set HK22.out 1 (.int .u64 u1))
                have HRW22 := Lib.hid (HRR22.out.far (p := ⟨q, 1, none⟩) hgq (.int .u64 u1))
                clear HC22 HK22 HRR22 cz fz
                generalize w22.setCell ⟨q, 1, none⟩ (.int .u64 u1) = w23 at *
                go_wp2
                go_ret2
                exact ⟨fun q => absurd q HNO.out, fun _ => ⟨_, _, rfl⟩, HD22.out⟩
              have HS1 := Lib.hid (show SegOk P1 from ⟨Nat.pos_of_ne_zero hz1, HP1.out.1, HP1.out.2⟩)
              obtain ⟨u1, hpu⟩ := parse_seg P1 HS1.out (HD9.out P1 (by simp) HP1.out.1) w21
              have HPU := Lib.hid hpu
              clear hpu hz1 HP1
              go_wp2_with fail
              refine HPU.out.mono ?_
              rintro e w22 ⟨rfl, hb22⟩
              have HC22 := Lib.hid (HD20.out.trans (hb22.mono HD20.out.size))
              have HK22 := Lib.hid (blk_below HBK20.out hb22)
              have HRR22 := Lib.hid (HRW20.out.below hb22)
              have cz : w22.cell? ⟨q, 1, none⟩ = some (.int .u64 0) := by rw [blk_cell HK22.out 1]; rfl
              have fz := blk_frozen HK22.out 1
              clear hb22 HPU q1 HD20 HBK20 HRW20
              go_upto_region 36 with fail
              have HD22 := Lib.hid (HC22.out.setCell (p := ⟨q, 1, none⟩) hq (.int .u64 u1))
              have HBK22 := Lib.hid (show (w22.setCell ⟨q, 1, none⟩ (.int .u64 u1)).heap[q]? = some (.cells #[.int .u64 u0, .int .u64 u1, .int .u64 0, .string pre, .string mt, .string s] 69 (0, 0)) from blk_set HK22.out 1 (.int .u64 u1))
              have HRW22 := Lib.hid (HRR22.out.far (p := ⟨q, 1, none⟩) hgq (.int .u64 u1))
              clear HC22 HK22 HRR22 cz fz
              generalize w22.setCell ⟨q, 1, none⟩ (.int .u64 u1) = w23 at *
              have q2 := (HRW22.out.cell 2 P2 rfl).1
              by_cases hz2 : P2.size = 0
              · have HNO := Lib.hid (show ¬ AnyForm s from fun z => by have h2 := (HSEG.out z P2 (by simp)).1; omega)
                have HPU := Lib.hid (parse_emp P2 hz2 w23 (HE0.out.below HD22.out))
                go_wp2_with fail
                refine HPU.out.mono ?_
                rintro e w24 ⟨u2, ty, v, rfl, hb24⟩
                have HC24 := Lib.hid (HD22.out.trans (hb24.mono HD22.out.size))
                have HK24 := Lib.hid (blk_below HBK22.out hb24)
                have HRR24 := Lib.hid (HRW22.out.below hb24)
                have cz : w24.cell? ⟨q, 2, none⟩ = some (.int .u64 0) := by rw [blk_cell HK24.out 2]; rfl
                have fz := blk_frozen HK24.out 2
                clear hb24 HPU q2 HD22 HBK22 HRW22
                go_upto_region 39 with fail
                have HD24 := Lib.hid (HC24.out.setCell (p := ⟨q, 2, none⟩) hq (.int .u64 u2))
                have HBK24 := Lib.hid (show (w24.setCell ⟨q, 2, none⟩ (.int .u64 u2)).heap[q]? = some (.cells #[.int .u64 u0, .int .u64 u1, .int .u64 u2, .string pre, .string mt, .string s] 69 (0, 0)) from blk_set HK24.out 2 (.int .u64 u2))
                have HRW24 := Lib.hid (HRR24.out.far (p := ⟨q, 2, none⟩) hgq (.int .u64 u2))
                clear HC24 HK24 HRR24 cz fz
                generalize w24.setCell ⟨q, 2, none⟩ (.int .u64 u2) = w25 at *
                go_wp2
                go_ret2
                exact ⟨fun q => absurd q HNO.out, fun _ => ⟨_, _, rfl⟩, HD24.out⟩
              have HS2 := Lib.hid (show SegOk P2 from ⟨Nat.pos_of_ne_zero hz2, HP2.out.1, HP2.out.2⟩)
              obtain ⟨u2, hpu⟩ := parse_seg P2 HS2.out (HD9.out P2 (by simp) HP2.out.1) w23
              have HPU := Lib.hid hpu
              clear hpu hz2 HP2
              go_wp2_with fail
              refine HPU.out.mono ?_
              rintro e w24 ⟨rfl, hb24⟩
              have HC24 := Lib.hid (HD22.out.trans (hb24.mono HD22.out.size))
              have HK24 := Lib.hid (blk_below HBK22.out hb24)
              have HRR24 := Lib.hid (HRW22.out.below hb24)
              have cz : w24.cell? ⟨q, 2, none⟩ = some (.int .u64 0) := by rw [blk_cell HK24.out 2]; rfl
              have fz := blk_frozen HK24.out 2
              clear hb24 HPU q2 HD22 HBK22 HRW22
              go_upto_region 39 with fail
              have HD24 := Lib.hid (HC24.out.setCell (p := ⟨q, 2, none⟩) hq (.int .u64 u2))
              have HBK24 := Lib.hid (show (w24.setCell ⟨q, 2, none⟩ (.int .u64 u2)).heap[q]? = some (.cells #[.int .u64 u0, .int .u64 u1, .int .u64 u2, .string pre, .string mt, .string s] 69 (0, 0)) from blk_set HK24.out 2 (.int .u64 u2))
              have HRW24 := Lib.hid (HRR24.out.far (p := ⟨q, 2, none⟩) hgq (.int .u64 u2))
              clear HC24 HK24 HRR24 cz fz
              generalize w24.setCell ⟨q, 2, none⟩ (.int .u64 u2) = w25 at *
              have HY := Lib.hid (show AnyForm s from HFIN.out (fun t ht => by
                simp only [List.mem_cons, List.not_mem_nil, or_false] at ht
                rcases ht with rfl | rfl | rfl
                · exact HS0.out
                · exact HS1.out
                · exact HS2.out))
              clear HS0 HS1 HS2 HFIN HSEG HD9 HSZ
              go_wp2
              go_ret2
              exact ⟨fun _ => ⟨q, rfl⟩, fun z => absurd HY.out z, HD24.out⟩
        · have HVP := Lib.hid (validPre_no pre hprez hP wC)
          have HNO := Lib.hid (HNOP.out cz (fun r => hP ((HPFP.out cz).2 r)))
          clear hP HFIN0 HPFP HNOP HSPP
          go_wp2_with fail
          refine HVP.out.mono ?_
          rintro e wT ⟨⟨ty, v, rfl⟩, hbT⟩
          have HBW := Lib.hid (HBC.out.trans (hbT.mono HBC.out.size))
          clear hbT HBC HKC HRC x3 HVP
          go_wp2
          go_ret2
          exact ⟨fun q => absurd q HNO.out, fun _ => ⟨_, _, rfl⟩, HBW.out⟩
      · rw [decide_eq_false cz]
        obtain rfl := hRtw (by omega)
        have HFIN := Lib.hid (fun r => HFIN0.out (fun q => absurd q cz) HPM.out r)
        have HBW := HB8
        have HBK := HK8
        have HR := HR8
        clear HB8 HK8 HR8 HQ8 HFIN0 HPFP HNOP HSPP
        generalize hLL : [P0, P1, R1] = L at *
        go_wp2
        go_loopw [11, 86] (fun y i wr => ∃ (k : Nat) (yv : Value), yv = y ∧ i = .int .i64 k ∧ k ≤ 3 ∧ Hid (Below w.heap.size w wr) ∧ Hid (RowAt wr g L) ∧ Hid (wr.heap[q]? = some (.cells #[.int .u64 0, .int .u64 0, .int .u64 0, .string ⟨#[]⟩, .string mt, .string s] 69 (0, 0))) ∧ Hid (∀ t ∈ L.take k, (∀ j : Nat, j < t.size → isD (bt t (j : Int))) ∧ (t.size ≤ 1 ∨ bt t 0 ≠ 48))) (fun _ i _ => 3 - (intOf i).toNat)
        case atStart => exact ⟨0, _, rfl, rfl, Nat.zero_le _, HBW, HR, HBK, Lib.hid (fun t ht => by simp at ht)⟩
        case round =>
          clear HBW HR HBK
          obtain ⟨k, yv, rfl, rfl, hk, hW, hR, hB, hX⟩ := hrel
          by_cases ck : k < 3
          · obtain ⟨t, ht⟩ : ∃ t, t = L[k]'(by rw [HL.out]; exact ck) := ⟨_, rfl⟩
            have HTM := Lib.hid (show t ∈ L by rw [ht]; exact List.getElem_mem _)
            have htz := HSZ.out t HTM.out
            have q1 := (hR.out.cell k t (by rw [ht]; exact List.getElem?_eq_getElem _)).1
            have HX2 := Lib.hid (fun (z : (∀ j : Nat, j < t.size → isD (bt t (j : Int))) ∧ (t.size ≤ 1 ∨ bt t 0 ≠ 48)) => take_more (Q := fun t => (∀ j : Nat, j < t.size → isD (bt t (j : Int))) ∧ (t.size ≤ 1 ∨ bt t 0 ≠ 48)) (by rw [HL.out]; exact ck) hX.out (by rw [← ht]; exact z))
            have HNUM := Lib.hid (fun W => only_any t numT (by omega) num_ascii (by decide) W)
            have HMV := Lib.hid (fun (W : World) (hb : Below wr.heap.size wr W) => show Below w.heap.size w W ∧ RowAt W g L ∧ W.heap[q]? = some (.cells #[.int .u64 0, .int .u64 0, .int .u64 0, .string ⟨#[]⟩, .string mt, .string s] 69 (0, 0)) from ⟨hW.out.trans (hb.mono hW.out.size), hR.out.below hb, blk_below hB.out hb⟩)
            clear ht hX hW hR hB
            by_cases hD : ∀ j : Nat, j < t.size → isD (bt t (j : Int))
            · rw [decide_eq_true ((only_D t).2 hD)] at HNUM
              by_cases c1 : 1 < t.size
              · have c1b : decide (1 < (t.size : Int)) = true := decide_eq_true (by omega)
                have hz0 : 0 < t.size := by omega
                by_cases h48 : (((t[0]'hz0).toNat : Nat) : Int) = 48
                · have h48b : ((((t[0]'hz0).toNat : Nat) : Int) == 48) = true := by rw [h48]; rfl
                  have HNO := Lib.hid (show ¬ AnyForm s from fun z => by
                    have h2 := (HSEG.out z t HTM.out).2.2
                    rw [show bt t 0 = ((((t[0]'hz0).toNat : Nat) : Int)) from bt_nat t 0 hz0] at h2
                    rcases h2 with h2 | h2
                    · omega
                    · exact h2 h48)
                  clear hD HX2 h48 HTM
                  go_wp2_with fail
                  refine (HNUM.out _).mono ?_
                  rintro e w13 ⟨rfl, hb13⟩
                  have HMW := Lib.hid (HMV.out _ hb13)
                  clear hb13 HNUM HMV q1
                  go_wp2
                  go_ret2
                  exact ⟨fun q => absurd q HNO.out, fun _ => ⟨_, _, rfl⟩, HMW.out.1⟩
                · have h48b : ((((t[0]'hz0).toNat : Nat) : Int) == 48) = false := beq_eq_false_iff_ne.2 h48
                  have HX3 := Lib.hid (HX2.out ⟨hD, .inr (by rw [show bt t 0 = ((((t[0]'hz0).toNat : Nat) : Int)) from bt_nat t 0 hz0]; exact h48)⟩)
                  clear hD HX2 h48 HTM
                  go_wp2_with fail
                  refine (HNUM.out _).mono ?_
                  rintro e w13 ⟨rfl, hb13⟩
                  have HMW := Lib.hid (HMV.out _ hb13)
                  clear hb13 HNUM HMV q1
                  go_wp2
                  go_roundw
                  case rel => exact ⟨k + 1, _, rfl, by go_num, by omega, Lib.hid HMW.out.1, Lib.hid HMW.out.2.1, Lib.hid HMW.out.2.2, HX3⟩
                  case measure => simp [intOf]; omega
              · have c1b : decide (1 < (t.size : Int)) = false := decide_eq_false (by omega)
                have HX3 := Lib.hid (HX2.out ⟨hD, .inl (by omega)⟩)
                clear hD HX2 HTM
                go_wp2_with fail
                refine (HNUM.out _).mono ?_
                rintro e w13 ⟨rfl, hb13⟩
                have HMW := Lib.hid (HMV.out _ hb13)
                clear hb13 HNUM HMV q1
                go_wp2
                go_roundw
                case rel => exact ⟨k + 1, _, rfl, by go_num, by omega, Lib.hid HMW.out.1, Lib.hid HMW.out.2.1, Lib.hid HMW.out.2.2, HX3⟩
                case measure => simp [intOf]; omega
            · rw [decide_eq_false (fun q => hD ((only_D t).1 q))] at HNUM
              have HNO := Lib.hid (show ¬ AnyForm s from fun z => hD (HSEG.out z t HTM.out).2.1)
              clear hD HX2 HTM
              go_wp2_with fail
              refine (HNUM.out _).mono ?_
              rintro e w13 ⟨rfl, hb13⟩
              have HMW := Lib.hid (HMV.out _ hb13)
              clear hb13 HNUM HMV q1
              go_wp2
              go_ret2
              exact ⟨fun q => absurd q HNO.out, fun _ => ⟨_, _, rfl⟩, HMW.out.1⟩
          · obtain rfl : k = 3 := by omega
            obtain ⟨P0, P1, P2, rfl⟩ : ∃ P0 P1 P2, L = [P0, P1, P2] := by
              have h := HL.out
              match L, h with
              | [a, b, c], _ => exact ⟨a, b, c, rfl⟩
            have HALL := Lib.hid (show ∀ t ∈ [P0, P1, P2], (∀ j : Nat, j < t.size → isD (bt t (j : Int))) ∧ (t.size ≤ 1 ∨ bt t 0 ≠ 48) from hX.out)
            have HP0 := Lib.hid (HALL.out P0 (by simp))
            have HP1 := Lib.hid (HALL.out P1 (by simp))
            have HP2 := Lib.hid (HALL.out P2 (by simp))
            have q0 := (hR.out.cell 0 P0 rfl).1
            clear hX HALL
            by_cases hz0 : P0.size = 0
            · have HNO := Lib.hid (show ¬ AnyForm s from fun z => by have h2 := (HSEG.out z P0 (by simp)).1; omega)
              have HPU := Lib.hid (parse_emp P0 hz0 wr (HE0.out.below hW.out))
              go_wp2_with fail
              refine HPU.out.mono ?_
              rintro e w20 ⟨u0, ty, v, rfl, hb20⟩
              have HC20 := Lib.hid (hW.out.trans (hb20.mono hW.out.size))
              have HK20 := Lib.hid (blk_below hB.out hb20)
              have HRR20 := Lib.hid (hR.out.below hb20)
              have cz : w20.cell? ⟨q, 0, none⟩ = some (.int .u64 0) := by rw [blk_cell HK20.out 0]; rfl
              have fz := blk_frozen HK20.out 0
              clear hb20 HPU q0 hW hB hR
              go_upto_region 33 with fail
              have HD20 := Lib.hid (HC20.out.setCell (p := ⟨q, 0, none⟩) hq (.int .u64 u0))
              have HBK20 := Lib.hid (show (w20.setCell ⟨q, 0, none⟩ (.int .u64 u0)).heap[q]? = some (.cells #[.int .u64 u0, .int .u64 0, .int .u64 0, .string ⟨#[]⟩, .string mt, .string s] 69 (0, 0)) from blk_set HK20.out 0 (.int .u64 u0))
              have HRW20 := Lib.hid (HRR20.out.far (p := ⟨q, 0, none⟩) hgq (.int .u64 u0))
              clear HC20 HK20 HRR20 cz fz
              generalize w20.setCell ⟨q, 0, none⟩ (.int .u64 u0) = w21 at *
              go_wp2
              go_ret2
              exact ⟨fun q => absurd q HNO.out, fun _ => ⟨_, _, rfl⟩, HD20.out⟩
            have HS0 := Lib.hid (show SegOk P0 from ⟨Nat.pos_of_ne_zero hz0, HP0.out.1, HP0.out.2⟩)
            obtain ⟨u0, hpu⟩ := parse_seg P0 HS0.out (HD9.out P0 (by simp) HP0.out.1) wr
            have HPU := Lib.hid hpu
            clear hpu hz0 HP0
            go_wp2_with fail
            refine HPU.out.mono ?_
            rintro e w20 ⟨rfl, hb20⟩
            have HC20 := Lib.hid (hW.out.trans (hb20.mono hW.out.size))
            have HK20 := Lib.hid (blk_below hB.out hb20)
            have HRR20 := Lib.hid (hR.out.below hb20)
            have cz : w20.cell? ⟨q, 0, none⟩ = some (.int .u64 0) := by rw [blk_cell HK20.out 0]; rfl
            have fz := blk_frozen HK20.out 0
            clear hb20 HPU q0 hW hB hR
            go_upto_region 33 with fail
            have HD20 := Lib.hid (HC20.out.setCell (p := ⟨q, 0, none⟩) hq (.int .u64 u0))
            have HBK20 := Lib.hid (show (w20.setCell ⟨q, 0, none⟩ (.int .u64 u0)).heap[q]? = some (.cells #[.int .u64 u0, .int .u64 0, .int .u64 0, .string ⟨#[]⟩, .string mt, .string s] 69 (0, 0)) from blk_set HK20.out 0 (.int .u64 u0))
            have HRW20 := Lib.hid (HRR20.out.far (p := ⟨q, 0, none⟩) hgq (.int .u64 u0))
            clear HC20 HK20 HRR20 cz fz
            generalize w20.setCell ⟨q, 0, none⟩ (.int .u64 u0) = w21 at *
            have q1 := (HRW20.out.cell 1 P1 rfl).1
            by_cases hz1 : P1.size = 0
            · have HNO := Lib.hid (show ¬ AnyForm s from fun z => by have h2 := (HSEG.out z P1 (by simp)).1; omega)
              have HPU := Lib.hid (parse_emp P1 hz1 w21 (HE0.out.below HD20.out))
              go_wp2_with fail
              refine HPU.out.mono ?_
              rintro e w22 ⟨u1, ty, v, rfl, hb22⟩
              have HC22 := Lib.hid (HD20.out.trans (hb22.mono HD20.out.size))
              have HK22 := Lib.hid (blk_below HBK20.out hb22)
              have HRR22 := Lib.hid (HRW20.out.below hb22)
              have cz : w22.cell? ⟨q, 1, none⟩ = some (.int .u64 0) := by rw [blk_cell HK22.out 1]; rfl
              have fz := blk_frozen HK22.out 1
              clear hb22 HPU q1 HD20 HBK20 HRW20
              go_upto_region 36 with fail
              have HD22 := Lib.hid (HC22.out.setCell (p := ⟨q, 1, none⟩) hq (.int .u64 u1))
              have HBK22 := Lib.hid (show (w22.setCell ⟨q, 1, none⟩ (.int .u64 u1)).heap[q]? = some (.cells #[.int .u64 u0, .int .u64 u1, .int .u64 0, .string ⟨#[]⟩, .string mt, .string s] 69 (0, 0)) from blk_set HK22.out 1 (.int .u64 u1))
              have HRW22 := Lib.hid (HRR22.out.far (p := ⟨q, 1, none⟩) hgq (.int .u64 u1))
              clear HC22 HK22 HRR22 cz fz
              generalize w22.setCell ⟨q, 1, none⟩ (.int .u64 u1) = w23 at *
              go_wp2
              go_ret2
              exact ⟨fun q => absurd q HNO.out, fun _ => ⟨_, _, rfl⟩, HD22.out⟩
            have HS1 := Lib.hid (show SegOk P1 from ⟨Nat.pos_of_ne_zero hz1, HP1.out.1, HP1.out.2⟩)
            obtain ⟨u1, hpu⟩ := parse_seg P1 HS1.out (HD9.out P1 (by simp) HP1.out.1) w21
            have HPU := Lib.hid hpu
            clear hpu hz1 HP1
            go_wp2_with fail
            refine HPU.out.mono ?_
            rintro e w22 ⟨rfl, hb22⟩
            have HC22 := Lib.hid (HD20.out.trans (hb22.mono HD20.out.size))
            have HK22 := Lib.hid (blk_below HBK20.out hb22)
            have HRR22 := Lib.hid (HRW20.out.below hb22)
            have cz : w22.cell? ⟨q, 1, none⟩ = some (.int .u64 0) := by rw [blk_cell HK22.out 1]; rfl
            have fz := blk_frozen HK22.out 1
            clear hb22 HPU q1 HD20 HBK20 HRW20
            go_upto_region 36 with fail
            have HD22 := Lib.hid (HC22.out.setCell (p := ⟨q, 1, none⟩) hq (.int .u64 u1))
            have HBK22 := Lib.hid (show (w22.setCell ⟨q, 1, none⟩ (.int .u64 u1)).heap[q]? = some (.cells #[.int .u64 u0, .int .u64 u1, .int .u64 0, .string ⟨#[]⟩, .string mt, .string s] 69 (0, 0)) from blk_set HK22.out 1 (.int .u64 u1))
            have HRW22 := Lib.hid (HRR22.out.far (p := ⟨q, 1, none⟩) hgq (.int .u64 u1))
            clear HC22 HK22 HRR22 cz fz
            generalize w22.setCell ⟨q, 1, none⟩ (.int .u64 u1) = w23 at *
            have q2 := (HRW22.out.cell 2 P2 rfl).1
            by_cases hz2 : P2.size = 0
            · have HNO := Lib.hid (show ¬ AnyForm s from fun z => by have h2 := (HSEG.out z P2 (by simp)).1; omega)
              have HPU := Lib.hid (parse_emp P2 hz2 w23 (HE0.out.below HD22.out))
              go_wp2_with fail
              refine HPU.out.mono ?_
              rintro e w24 ⟨u2, ty, v, rfl, hb24⟩
              have HC24 := Lib.hid (HD22.out.trans (hb24.mono HD22.out.size))
              have HK24 := Lib.hid (blk_below HBK22.out hb24)
              have HRR24 := Lib.hid (HRW22.out.below hb24)
              have cz : w24.cell? ⟨q, 2, none⟩ = some (.int .u64 0) := by rw [blk_cell HK24.out 2]; rfl
              have fz := blk_frozen HK24.out 2
              clear hb24 HPU q2 HD22 HBK22 HRW22
              go_upto_region 39 with fail
              have HD24 := Lib.hid (HC24.out.setCell (p := ⟨q, 2, none⟩) hq (.int .u64 u2))
              have HBK24 := Lib.hid (show (w24.setCell ⟨q, 2, none⟩ (.int .u64 u2)).heap[q]? = some (.cells #[.int .u64 u0, .int .u64 u1, .int .u64 u2, .string ⟨#[]⟩, .string mt, .string s] 69 (0, 0)) from blk_set HK24.out 2 (.int .u64 u2))
              have HRW24 := Lib.hid (HRR24.out.far (p := ⟨q, 2, none⟩) hgq (.int .u64 u2))
              clear HC24 HK24 HRR24 cz fz
              generalize w24.setCell ⟨q, 2, none⟩ (.int .u64 u2) = w25 at *
              go_wp2
              go_ret2
              exact ⟨fun q => absurd q HNO.out, fun _ => ⟨_, _, rfl⟩, HD24.out⟩
            have HS2 := Lib.hid (show SegOk P2 from ⟨Nat.pos_of_ne_zero hz2, HP2.out.1, HP2.out.2⟩)
            obtain ⟨u2, hpu⟩ := parse_seg P2 HS2.out (HD9.out P2 (by simp) HP2.out.1) w23
            have HPU := Lib.hid hpu
            clear hpu hz2 HP2
            go_wp2_with fail
            refine HPU.out.mono ?_
            rintro e w24 ⟨rfl, hb24⟩
            have HC24 := Lib.hid (HD22.out.trans (hb24.mono HD22.out.size))
            have HK24 := Lib.hid (blk_below HBK22.out hb24)
            have HRR24 := Lib.hid (HRW22.out.below hb24)
            have cz : w24.cell? ⟨q, 2, none⟩ = some (.int .u64 0) := by rw [blk_cell HK24.out 2]; rfl
            have fz := blk_frozen HK24.out 2
            clear hb24 HPU q2 HD22 HBK22 HRW22
            go_upto_region 39 with fail
            have HD24 := Lib.hid (HC24.out.setCell (p := ⟨q, 2, none⟩) hq (.int .u64 u2))
            have HBK24 := Lib.hid (show (w24.setCell ⟨q, 2, none⟩ (.int .u64 u2)).heap[q]? = some (.cells #[.int .u64 u0, .int .u64 u1, .int .u64 u2, .string ⟨#[]⟩, .string mt, .string s] 69 (0, 0)) from blk_set HK24.out 2 (.int .u64 u2))
            have HRW24 := Lib.hid (HRR24.out.far (p := ⟨q, 2, none⟩) hgq (.int .u64 u2))
            clear HC24 HK24 HRR24 cz fz
            generalize w24.setCell ⟨q, 2, none⟩ (.int .u64 u2) = w25 at *
            have HY := Lib.hid (show AnyForm s from HFIN.out (fun t ht => by
              simp only [List.mem_cons, List.not_mem_nil, or_false] at ht
              rcases ht with rfl | rfl | rfl
              · exact HS0.out
              · exact HS1.out
              · exact HS2.out))
            clear HS0 HS1 HS2 HFIN HSEG HD9 HSZ
            go_wp2
            go_ret2
            exact ⟨fun _ => ⟨q, rfl⟩, fun z => absurd HY.out z, HD24.out⟩
    · have HVM := Lib.hid (validMeta_no mt hmtz hM w6)
      have HNO := Lib.hid (HNOM.out cm (fun r => hM ((HPFM.out cm).2 r)))
      clear hM HNOM HSPM HPFM
      go_wp2_with fail
      refine HVM.out.mono ?_
      rintro e w7 ⟨⟨ty, v, rfl⟩, hb7⟩
      have HB7 := Lib.hid (HB6.out.trans (hb7.mono HB6.out.size))
      clear hb7 HB6 HK6 HR6 HQ6 x4 HVM
      go_wp2
      go_ret2
      exact ⟨fun q => absurd q HNO.out, fun _ => ⟨_, _, rfl⟩, HB7.out⟩
  · rw [decide_eq_false (fun r => cm (hqm.1 r))]
    obtain rfl := hRmz (by omega)
    clear HNOM HSPM HPFM
    have q2 := (HR3.out.cell 2 R rfl).1
    go_wp2_with fail
    refine (HCD.out _).mono ?_
    rintro e w8 ⟨rfl, hd8⟩
    have HB8 := Lib.hid (HB3.out.trans (hd8.below.mono HB3.out.size))
    have HK8 := Lib.hid (blk_below HK3.out hd8.below)
    have HR8 := Lib.hid (HR3.out.below hd8.below)
    have HQ8 := Lib.hid (Nat.lt_of_lt_of_le HQS3.out hd8.below.size)
    clear hd8 HB3 HK3 HR3 HQS3 q2 HCD
    by_cases cz : z < R.size
    · rw [decide_eq_true cz]
      have q2 := (HR8.out.cell 2 R rfl).1
      go_wp2_with fail
      refine (HSPP.out cz _).mono ?_
      rintro e w9 ⟨k, ck, rfl, hk, hrow, hb9⟩
      have HB9 := Lib.hid (HB8.out.trans (hb9.mono HB8.out.size))
      have HK9 := Lib.hid (blk_below HK8.out hb9)
      have HR9 := Lib.hid (HR8.out.below hb9)
      have HX9 := Lib.hid hrow
      have hkq : k ≠ q := by have := HQ8.out; omega
      have hgk : g ≠ k := by have := HR8.out.lt; omega
      clear hb9 hrow hk HB8 HK8 HR8 HQ8 q2
      have q1 := (HX9.out.cell 1 pre rfl).1
      have xz : w9.cell? ⟨q, 3, none⟩ = some (.string ⟨#[]⟩) := by rw [blk_cell HK9.out 3]; rfl
      have fz := blk_frozen HK9.out 3
      go_upto_region 19 with fail
      have HBA := Lib.hid (HB9.out.setCell (p := ⟨q, 3, none⟩) hq (.string pre))
      have HKA := Lib.hid (show (w9.setCell ⟨q, 3, none⟩ (.string pre)).heap[q]? = some (.cells #[.int .u64 0, .int .u64 0, .int .u64 0, .string pre, .string ⟨#[]⟩, .string s] 69 (0, 0)) from blk_set HK9.out 3 (.string pre))
      have HRA := Lib.hid (HR9.out.far (p := ⟨q, 3, none⟩) hgq (.string pre))
      have HXA := Lib.hid (HX9.out.far (p := ⟨q, 3, none⟩) hkq (.string pre))
      clear HB9 HK9 HR9 HX9 q1 xz fz
      generalize w9.setCell ⟨q, 3, none⟩ (.string pre) = wA at *
      have q0 := (HXA.out.cell 0 R2 rfl).1
      obtain ⟨xg, fg⟩ := HRA.out.cell 2 R rfl
      go_upto_region 20 with fail
      have HBC := Lib.hid (HBA.out.setCell (p := ⟨g, 2, none⟩) hg0 (.string R2))
      have HKC := Lib.hid (blk_far HKA.out (p := ⟨g, 2, none⟩) (Ne.symm hgq) (.string R2))
      have HRC := Lib.hid (show RowAt (wA.setCell ⟨g, 2, none⟩ (.string R2)) g [P0, P1, R2] from HRA.out.put 2 R2)
      clear HBA HKA HRA HXA q0 xg fg
      generalize wA.setCell ⟨g, 2, none⟩ (.string R2) = wC at *
      have x3 : wC.cell? ⟨q, 3, none⟩ = some (.string pre) := by rw [blk_cell HKC.out 3]; rfl
      by_cases hP : PF pre true pre.size 0
      · have HVP := Lib.hid (validPre pre hprez hP wC)
        have HFIN := Lib.hid (fun r => HFIN0.out (fun _ => (HPFP.out cz).1 hP) (fun q => absurd q cm) r)
        clear hP HFIN0 HPFP HNOP HSPP
        go_wp2_with fail
        refine HVP.out.mono ?_
        rintro e wT ⟨rfl, hbT⟩
        have HBW := Lib.hid (HBC.out.trans (hbT.mono HBC.out.size))
        have HBK := Lib.hid (blk_below HKC.out hbT)
        have HR := Lib.hid (HRC.out.below hbT)
        clear hbT HBC HKC HRC x3 HVP
        generalize hLL : [P0, P1, R2] = L at *
        go_wp2
        go_loopw [11, 86] (fun y i wr => ∃ (k : Nat) (yv : Value), yv = y ∧ i = .int .i64 k ∧ k ≤ 3 ∧ Hid (Below w.heap.size w wr) ∧ Hid (RowAt wr g L) ∧ Hid (wr.heap[q]? = some (.cells #[.int .u64 0, .int .u64 0, .int .u64 0, .string pre, .string ⟨#[]⟩, .string s] 69 (0, 0))) ∧ Hid (∀ t ∈ L.take k, (∀ j : Nat, j < t.size → isD (bt t (j : Int))) ∧ (t.size ≤ 1 ∨ bt t 0 ≠ 48))) (fun _ i _ => 3 - (intOf i).toNat)
        case atStart => exact ⟨0, _, rfl, rfl, Nat.zero_le _, HBW, HR, HBK, Lib.hid (fun t ht => by simp at ht)⟩
        case round =>
          clear HBW HR HBK
          obtain ⟨k, yv, rfl, rfl, hk, hW, hR, hB, hX⟩ := hrel
          by_cases ck : k < 3
          · obtain ⟨t, ht⟩ : ∃ t, t = L[k]'(by rw [HL.out]; exact ck) := ⟨_, rfl⟩
            have HTM := Lib.hid (show t ∈ L by rw [ht]; exact List.getElem_mem _)
            have htz := HSZ.out t HTM.out
            have q1 := (hR.out.cell k t (by rw [ht]; exact List.getElem?_eq_getElem _)).1
            have HX2 := Lib.hid (fun (z : (∀ j : Nat, j < t.size → isD (bt t (j : Int))) ∧ (t.size ≤ 1 ∨ bt t 0 ≠ 48)) => take_more (Q := fun t => (∀ j : Nat, j < t.size → isD (bt t (j : Int))) ∧ (t.size ≤ 1 ∨ bt t 0 ≠ 48)) (by rw [HL.out]; exact ck) hX.out (by rw [← ht]; exact z))
            have HNUM := Lib.hid (fun W => only_any t numT (by omega) num_ascii (by decide) W)
            have HMV := Lib.hid (fun (W : World) (hb : Below wr.heap.size wr W) => show Below w.heap.size w W ∧ RowAt W g L ∧ W.heap[q]? = some (.cells #[.int .u64 0, .int .u64 0, .int .u64 0, .string pre, .string ⟨#[]⟩, .string s] 69 (0, 0)) from ⟨hW.out.trans (hb.mono hW.out.size), hR.out.below hb, blk_below hB.out hb⟩)
            clear ht hX hW hR hB
            by_cases hD : ∀ j : Nat, j < t.size → isD (bt t (j : Int))
            · rw [decide_eq_true ((only_D t).2 hD)] at HNUM
              by_cases c1 : 1 < t.size
              · have c1b : decide (1 < (t.size : Int)) = true := decide_eq_true (by omega)
                have hz0 : 0 < t.size := by omega
                by_cases h48 : (((t[0]'hz0).toNat : Nat) : Int) = 48
                · have h48b : ((((t[0]'hz0).toNat : Nat) : Int) == 48) = true := by rw [h48]; rfl
                  have HNO := Lib.hid (show ¬ AnyForm s from fun z => by
                    have h2 := (HSEG.out z t HTM.out).2.2
                    rw [show bt t 0 = ((((t[0]'hz0).toNat : Nat) : Int)) from bt_nat t 0 hz0] at h2
                    rcases h2 with h2 | h2
                    · omega
                    · exact h2 h48)
                  clear hD HX2 h48 HTM
                  go_wp2_with fail
                  refine (HNUM.out _).mono ?_
                  rintro e w13 ⟨rfl, hb13⟩
                  have HMW := Lib.hid (HMV.out _ hb13)
                  clear hb13 HNUM HMV q1
                  go_wp2
                  go_ret2
                  exact ⟨fun q => absurd q HNO.out, fun _ => ⟨_, _, rfl⟩, HMW.out.1⟩
                · have h48b : ((((t[0]'hz0).toNat : Nat) : Int) == 48) = false := beq_eq_false_iff_ne.2 h48
                  have HX3 := Lib.hid (HX2.out ⟨hD, .inr (by rw [show bt t 0 = ((((t[0]'hz0).toNat : Nat) : Int)) from bt_nat t 0 hz0]; exact h48)⟩)
                  clear hD HX2 h48 HTM
                  go_wp2_with fail
                  refine (HNUM.out _).mono ?_
                  rintro e w13 ⟨rfl, hb13⟩
                  have HMW := Lib.hid (HMV.out _ hb13)
                  clear hb13 HNUM HMV q1
                  go_wp2
                  go_roundw
                  case rel => exact ⟨k + 1, _, rfl, by go_num, by omega, Lib.hid HMW.out.1, Lib.hid HMW.out.2.1, Lib.hid HMW.out.2.2, HX3⟩
                  case measure => simp [intOf]; omega
              · have c1b : decide (1 < (t.size : Int)) = false := decide_eq_false (by omega)
                have HX3 := Lib.hid (HX2.out ⟨hD, .inl (by omega)⟩)
                clear hD HX2 HTM
                go_wp2_with fail
                refine (HNUM.out _).mono ?_
                rintro e w13 ⟨rfl, hb13⟩
                have HMW := Lib.hid (HMV.out _ hb13)
                clear hb13 HNUM HMV q1
                go_wp2
                go_roundw
                case rel => exact ⟨k + 1, _, rfl, by go_num, by omega, Lib.hid HMW.out.1, Lib.hid HMW.out.2.1, Lib.hid HMW.out.2.2, HX3⟩
                case measure => simp [intOf]; omega
            · rw [decide_eq_false (fun q => hD ((only_D t).1 q))] at HNUM
              have HNO := Lib.hid (show ¬ AnyForm s from fun z => hD (HSEG.out z t HTM.out).2.1)
              clear hD HX2 HTM
              go_wp2_with fail
              refine (HNUM.out _).mono ?_
              rintro e w13 ⟨rfl, hb13⟩
              have HMW := Lib.hid (HMV.out _ hb13)
              clear hb13 HNUM HMV q1
              go_wp2
              go_ret2
              exact ⟨fun q => absurd q HNO.out, fun _ => ⟨_, _, rfl⟩, HMW.out.1⟩
          · obtain rfl : k = 3 := by omega
            obtain ⟨P0, P1, P2, rfl⟩ : ∃ P0 P1 P2, L = [P0, P1, P2] := by
              have h := HL.out
              match L, h with
              | [a, b, c], _ => exact ⟨a, b, c, rfl⟩
            have HALL := Lib.hid (show ∀ t ∈ [P0, P1, P2], (∀ j : Nat, j < t.size → isD (bt t (j : Int))) ∧ (t.size ≤ 1 ∨ bt t 0 ≠ 48) from hX.out)
            have HP0 := Lib.hid (HALL.out P0 (by simp))
            have HP1 := Lib.hid (HALL.out P1 (by simp))
            have HP2 := Lib.hid (HALL.out P2 (by simp))
            have q0 := (hR.out.cell 0 P0 rfl).1
            clear hX HALL
            by_cases hz0 : P0.size = 0
            · have HNO := Lib.hid (show ¬ AnyForm s from fun z => by have h2 := (HSEG.out z P0 (by simp)).1; omega)
              have HPU := Lib.hid (parse_emp P0 hz0 wr (HE0.out.below hW.out))
              go_wp2_with fail
              refine HPU.out.mono ?_
              rintro e w20 ⟨u0, ty, v, rfl, hb20⟩
              have HC20 := Lib.hid (hW.out.trans (hb20.mono hW.out.size))
              have HK20 := Lib.hid (blk_below hB.out hb20)
              have HRR20 := Lib.hid (hR.out.below hb20)
              have cz : w20.cell? ⟨q, 0, none⟩ = some (.int .u64 0) := by rw [blk_cell HK20.out 0]; rfl
              have fz := blk_frozen HK20.out 0
              clear hb20 HPU q0 hW hB hR
              go_upto_region 33 with fail
              have HD20 := Lib.hid (HC20.out.setCell (p := ⟨q, 0, none⟩) hq (.int .u64 u0))
              have HBK20 := Lib.hid (show (w20.setCell ⟨q, 0, none⟩ (.int .u64 u0)).heap[q]? = some (.cells #[.int .u64 u0, .int .u64 0, .int .u64 0, .string pre, .string ⟨#[]⟩, .string s] 69 (0, 0)) from blk_set HK20.out 0 (.int .u64 u0))
              have HRW20 := Lib.hid (HRR20.out.far (p := ⟨q, 0, none⟩) hgq (.int .u64 u0))
              clear HC20 HK20 HRR20 cz fz
              generalize w20.setCell ⟨q, 0, none⟩ (.int .u64 u0) = w21 at *
              go_wp2
              go_ret2
              exact ⟨fun q => absurd q HNO.out, fun _ => ⟨_, _, rfl⟩, HD20.out⟩
            have HS0 := Lib.hid (show SegOk P0 from ⟨Nat.pos_of_ne_zero hz0, HP0.out.1, HP0.out.2⟩)
            obtain ⟨u0, hpu⟩ := parse_seg P0 HS0.out (HD9.out P0 (by simp) HP0.out.1) wr
            have HPU := Lib.hid hpu
            clear hpu hz0 HP0
            go_wp2_with fail
            refine HPU.out.mono ?_
            rintro e w20 ⟨rfl, hb20⟩
            have HC20 := Lib.hid (hW.out.trans (hb20.mono hW.out.size))
            have HK20 := Lib.hid (blk_below hB.out hb20)
            have HRR20 := Lib.hid (hR.out.below hb20)
            have cz : w20.cell? ⟨q, 0, none⟩ = some (.int .u64 0) := by rw [blk_cell HK20.out 0]; rfl
            have fz := blk_frozen HK20.out 0
            clear hb20 HPU q0 hW hB hR
            go_upto_region 33 with fail
            have HD20 := Lib.hid (HC20.out.setCell (p := ⟨q, 0, none⟩) hq (.int .u64 u0))
            have HBK20 := Lib.hid (show (w20.setCell ⟨q, 0, none⟩ (.int .u64 u0)).heap[q]? = some (.cells #[.int .u64 u0, .int .u64 0, .int .u64 0, .string pre, .string ⟨#[]⟩, .string s] 69 (0, 0)) from blk_set HK20.out 0 (.int .u64 u0))
            have HRW20 := Lib.hid (HRR20.out.far (p := ⟨q, 0, none⟩) hgq (.int .u64 u0))
            clear HC20 HK20 HRR20 cz fz
            generalize w20.setCell ⟨q, 0, none⟩ (.int .u64 u0) = w21 at *
            have q1 := (HRW20.out.cell 1 P1 rfl).1
            by_cases hz1 : P1.size = 0
            · have HNO := Lib.hid (show ¬ AnyForm s from fun z => by have h2 := (HSEG.out z P1 (by simp)).1; omega)
              have HPU := Lib.hid (parse_emp P1 hz1 w21 (HE0.out.below HD20.out))
              go_wp2_with fail
              refine HPU.out.mono ?_
              rintro e w22 ⟨u1, ty, v, rfl, hb22⟩
              have HC22 := Lib.hid (HD20.out.trans (hb22.mono HD20.out.size))
              have HK22 := Lib.hid (blk_below HBK20.out hb22)
              have HRR22 := Lib.hid (HRW20.out.below hb22)
              have cz : w22.cell? ⟨q, 1, none⟩ = some (.int .u64 0) := by rw [blk_cell HK22.out 1]; rfl
              have fz := blk_frozen HK22.out 1
              clear hb22 HPU q1 HD20 HBK20 HRW20
              go_upto_region 36 with fail
              have HD22 := Lib.hid (HC22.out.setCell (p := ⟨q, 1, none⟩) hq (.int .u64 u1))
              have HBK22 := Lib.hid (show (w22.setCell ⟨q, 1, none⟩ (.int .u64 u1)).heap[q]? = some (.cells #[.int .u64 u0, .int .u64 u1, .int .u64 0, .string pre, .string ⟨#[]⟩, .string s] 69 (0, 0)) from blk_set HK22.out 1 (.int .u64 u1))
              have HRW22 := Lib.hid (HRR22.out.far (p := ⟨q, 1, none⟩) hgq (.int .u64 u1))
              clear HC22 HK22 HRR22 cz fz
              generalize w22.setCell ⟨q, 1, none⟩ (.int .u64 u1) = w23 at *
              go_wp2
              go_ret2
              exact ⟨fun q => absurd q HNO.out, fun _ => ⟨_, _, rfl⟩, HD22.out⟩
            have HS1 := Lib.hid (show SegOk P1 from ⟨Nat.pos_of_ne_zero hz1, HP1.out.1, HP1.out.2⟩)
            obtain ⟨u1, hpu⟩ := parse_seg P1 HS1.out (HD9.out P1 (by simp) HP1.out.1) w21
            have HPU := Lib.hid hpu
            clear hpu hz1 HP1
            go_wp2_with fail
            refine HPU.out.mono ?_
            rintro e w22 ⟨rfl, hb22⟩
            have HC22 := Lib.hid (HD20.out.trans (hb22.mono HD20.out.size))
            have HK22 := Lib.hid (blk_below HBK20.out hb22)
            have HRR22 := Lib.hid (HRW20.out.below hb22)
            have cz : w22.cell? ⟨q, 1, none⟩ = some (.int .u64 0) := by rw [blk_cell HK22.out 1]; rfl
            have fz := blk_frozen HK22.out 1
            clear hb22 HPU q1 HD20 HBK20 HRW20
            go_upto_region 36 with fail
            have HD22 := Lib.hid (HC22.out.setCell (p := ⟨q, 1, none⟩) hq (.int .u64 u1))
            have HBK22 := Lib.hid (show (w22.setCell ⟨q, 1, none⟩ (.int .u64 u1)).heap[q]? = some (.cells #[.int .u64 u0, .int .u64 u1, .int .u64 0, .string pre, .string ⟨#[]⟩, .string s] 69 (0, 0)) from blk_set HK22.out 1 (.int .u64 u1))
            have HRW22 := Lib.hid (HRR22.out.far (p := ⟨q, 1, none⟩) hgq (.int .u64 u1))
            clear HC22 HK22 HRR22 cz fz
            generalize w22.setCell ⟨q, 1, none⟩ (.int .u64 u1) = w23 at *
            have q2 := (HRW22.out.cell 2 P2 rfl).1
            by_cases hz2 : P2.size = 0
            · have HNO := Lib.hid (show ¬ AnyForm s from fun z => by have h2 := (HSEG.out z P2 (by simp)).1; omega)
              have HPU := Lib.hid (parse_emp P2 hz2 w23 (HE0.out.below HD22.out))
              go_wp2_with fail
              refine HPU.out.mono ?_
              rintro e w24 ⟨u2, ty, v, rfl, hb24⟩
              have HC24 := Lib.hid (HD22.out.trans (hb24.mono HD22.out.size))
              have HK24 := Lib.hid (blk_below HBK22.out hb24)
              have HRR24 := Lib.hid (HRW22.out.below hb24)
              have cz : w24.cell? ⟨q, 2, none⟩ = some (.int .u64 0) := by rw [blk_cell HK24.out 2]; rfl
              have fz := blk_frozen HK24.out 2
              clear hb24 HPU q2 HD22 HBK22 HRW22
              go_upto_region 39 with fail
              have HD24 := Lib.hid (HC24.out.setCell (p := ⟨q, 2, none⟩) hq (.int .u64 u2))
              have HBK24 := Lib.hid (show (w24.setCell ⟨q, 2, none⟩ (.int .u64 u2)).heap[q]? = some (.cells #[.int .u64 u0, .int .u64 u1, .int .u64 u2, .string pre, .string ⟨#[]⟩, .string s] 69 (0, 0)) from blk_set HK24.out 2 (.int .u64 u2))
              have HRW24 := Lib.hid (HRR24.out.far (p := ⟨q, 2, none⟩) hgq (.int .u64 u2))
              clear HC24 HK24 HRR24 cz fz
              generalize w24.setCell ⟨q, 2, none⟩ (.int .u64 u2) = w25 at *
              go_wp2
              go_ret2
              exact ⟨fun q => absurd q HNO.out, fun _ => ⟨_, _, rfl⟩, HD24.out⟩
            have HS2 := Lib.hid (show SegOk P2 from ⟨Nat.pos_of_ne_zero hz2, HP2.out.1, HP2.out.2⟩)
            obtain ⟨u2, hpu⟩ := parse_seg P2 HS2.out (HD9.out P2 (by simp) HP2.out.1) w23
            have HPU := Lib.hid hpu
            clear hpu hz2 HP2
            go_wp2_with fail
            refine HPU.out.mono ?_
            rintro e w24 ⟨rfl, hb24⟩
            have HC24 := Lib.hid (HD22.out.trans (hb24.mono HD22.out.size))
            have HK24 := Lib.hid (blk_below HBK22.out hb24)
            have HRR24 := Lib.hid (HRW22.out.below hb24)
            have cz : w24.cell? ⟨q, 2, none⟩ = some (.int .u64 0) := by rw [blk_cell HK24.out 2]; rfl
            have fz := blk_frozen HK24.out 2
            clear hb24 HPU q2 HD22 HBK22 HRW22
            go_upto_region 39 with fail
            have HD24 := Lib.hid (HC24.out.setCell (p := ⟨q, 2, none⟩) hq (.int .u64 u2))
            have HBK24 := Lib.hid (show (w24.setCell ⟨q, 2, none⟩ (.int .u64 u2)).heap[q]? = some (.cells #[.int .u64 u0, .int .u64 u1, .int .u64 u2, .string pre, .string ⟨#[]⟩, .string s] 69 (0, 0)) from blk_set HK24.out 2 (.int .u64 u2))
            have HRW24 := Lib.hid (HRR24.out.far (p := ⟨q, 2, none⟩) hgq (.int .u64 u2))
            clear HC24 HK24 HRR24 cz fz
            generalize w24.setCell ⟨q, 2, none⟩ (.int .u64 u2) = w25 at *
            have HY := Lib.hid (show AnyForm s from HFIN.out (fun t ht => by
              simp only [List.mem_cons, List.not_mem_nil, or_false] at ht
              rcases ht with rfl | rfl | rfl
              · exact HS0.out
              · exact HS1.out
              · exact HS2.out))
            clear HS0 HS1 HS2 HFIN HSEG HD9 HSZ
            go_wp2
            go_ret2
            exact ⟨fun _ => ⟨q, rfl⟩, fun z => absurd HY.out z, HD24.out⟩
      · have HVP := Lib.hid (validPre_no pre hprez hP wC)
        have HNO := Lib.hid (HNOP.out cz (fun r => hP ((HPFP.out cz).2 r)))
        clear hP HFIN0 HPFP HNOP HSPP
        go_wp2_with fail
        refine HVP.out.mono ?_
        rintro e wT ⟨⟨ty, v, rfl⟩, hbT⟩
        have HBW := Lib.hid (HBC.out.trans (hbT.mono HBC.out.size))
        clear hbT HBC HKC HRC x3 HVP
        go_wp2
        go_ret2
        exact ⟨fun q => absurd q HNO.out, fun _ => ⟨_, _, rfl⟩, HBW.out⟩
    · rw [decide_eq_false cz]
      obtain rfl := hRtw (by omega)
      have HFIN := Lib.hid (fun r => HFIN0.out (fun q => absurd q cz) (fun q => absurd q cm) r)
      have HBW := HB8
      have HBK := HK8
      have HR := HR8
      clear HB8 HK8 HR8 HQ8 HFIN0 HPFP HNOP HSPP
      generalize hLL : [P0, P1, R] = L at *
      go_wp2
      go_loopw [11, 86] (fun y i wr => ∃ (k : Nat) (yv : Value), yv = y ∧ i = .int .i64 k ∧ k ≤ 3 ∧ Hid (Below w.heap.size w wr) ∧ Hid (RowAt wr g L) ∧ Hid (wr.heap[q]? = some (.cells #[.int .u64 0, .int .u64 0, .int .u64 0, .string ⟨#[]⟩, .string ⟨#[]⟩, .string s] 69 (0, 0))) ∧ Hid (∀ t ∈ L.take k, (∀ j : Nat, j < t.size → isD (bt t (j : Int))) ∧ (t.size ≤ 1 ∨ bt t 0 ≠ 48))) (fun _ i _ => 3 - (intOf i).toNat)
      case atStart => exact ⟨0, _, rfl, rfl, Nat.zero_le _, HBW, HR, HBK, Lib.hid (fun t ht => by simp at ht)⟩
      case round =>
        clear HBW HR HBK
        obtain ⟨k, yv, rfl, rfl, hk, hW, hR, hB, hX⟩ := hrel
        by_cases ck : k < 3
        · obtain ⟨t, ht⟩ : ∃ t, t = L[k]'(by rw [HL.out]; exact ck) := ⟨_, rfl⟩
          have HTM := Lib.hid (show t ∈ L by rw [ht]; exact List.getElem_mem _)
          have htz := HSZ.out t HTM.out
          have q1 := (hR.out.cell k t (by rw [ht]; exact List.getElem?_eq_getElem _)).1
          have HX2 := Lib.hid (fun (z : (∀ j : Nat, j < t.size → isD (bt t (j : Int))) ∧ (t.size ≤ 1 ∨ bt t 0 ≠ 48)) => take_more (Q := fun t => (∀ j : Nat, j < t.size → isD (bt t (j : Int))) ∧ (t.size ≤ 1 ∨ bt t 0 ≠ 48)) (by rw [HL.out]; exact ck) hX.out (by rw [← ht]; exact z))
          have HNUM := Lib.hid (fun W => only_any t numT (by omega) num_ascii (by decide) W)
          have HMV := Lib.hid (fun (W : World) (hb : Below wr.heap.size wr W) => show Below w.heap.size w W ∧ RowAt W g L ∧ W.heap[q]? = some (.cells #[.int .u64 0, .int .u64 0, .int .u64 0, .string ⟨#[]⟩, .string ⟨#[]⟩, .string s] 69 (0, 0)) from ⟨hW.out.trans (hb.mono hW.out.size), hR.out.below hb, blk_below hB.out hb⟩)
          clear ht hX hW hR hB
          by_cases hD : ∀ j : Nat, j < t.size → isD (bt t (j : Int))
          · rw [decide_eq_true ((only_D t).2 hD)] at HNUM
            by_cases c1 : 1 < t.size
            · have c1b : decide (1 < (t.size : Int)) = true := decide_eq_true (by omega)
              have hz0 : 0 < t.size := by omega
              by_cases h48 : (((t[0]'hz0).toNat : Nat) : Int) = 48
              · have h48b : ((((t[0]'hz0).toNat : Nat) : Int) == 48) = true := by rw [h48]; rfl
                have HNO := Lib.hid (show ¬ AnyForm s from fun z => by
                  have h2 := (HSEG.out z t HTM.out).2.2
                  rw [show bt t 0 = ((((t[0]'hz0).toNat : Nat) : Int)) from bt_nat t 0 hz0] at h2
                  rcases h2 with h2 | h2
                  · omega
                  · exact h2 h48)
                clear hD HX2 h48 HTM
                go_wp2_with fail
                refine (HNUM.out _).mono ?_
                rintro e w13 ⟨rfl, hb13⟩
                have HMW := Lib.hid (HMV.out _ hb13)
                clear hb13 HNUM HMV q1
                go_wp2
                go_ret2
                exact ⟨fun q => absurd q HNO.out, fun _ => ⟨_, _, rfl⟩, HMW.out.1⟩
              · have h48b : ((((t[0]'hz0).toNat : Nat) : Int) == 48) = false := beq_eq_false_iff_ne.2 h48
                have HX3 := Lib.hid (HX2.out ⟨hD, .inr (by rw [show bt t 0 = ((((t[0]'hz0).toNat : Nat) : Int)) from bt_nat t 0 hz0]; exact h48)⟩)
                clear hD HX2 h48 HTM
                go_wp2_with fail
                refine (HNUM.out _).mono ?_
                rintro e w13 ⟨rfl, hb13⟩
                have HMW := Lib.hid (HMV.out _ hb13)
                clear hb13 HNUM HMV q1
                go_wp2
                go_roundw
                case rel => exact ⟨k + 1, _, rfl, by go_num, by omega, Lib.hid HMW.out.1, Lib.hid HMW.out.2.1, Lib.hid HMW.out.2.2, HX3⟩
                case measure => simp [intOf]; omega
            · have c1b : decide (1 < (t.size : Int)) = false := decide_eq_false (by omega)
              have HX3 := Lib.hid (HX2.out ⟨hD, .inl (by omega)⟩)
              clear hD HX2 HTM
              go_wp2_with fail
              refine (HNUM.out _).mono ?_
              rintro e w13 ⟨rfl, hb13⟩
              have HMW := Lib.hid (HMV.out _ hb13)
              clear hb13 HNUM HMV q1
              go_wp2
              go_roundw
              case rel => exact ⟨k + 1, _, rfl, by go_num, by omega, Lib.hid HMW.out.1, Lib.hid HMW.out.2.1, Lib.hid HMW.out.2.2, HX3⟩
              case measure => simp [intOf]; omega
          · rw [decide_eq_false (fun q => hD ((only_D t).1 q))] at HNUM
            have HNO := Lib.hid (show ¬ AnyForm s from fun z => hD (HSEG.out z t HTM.out).2.1)
            clear hD HX2 HTM
            go_wp2_with fail
            refine (HNUM.out _).mono ?_
            rintro e w13 ⟨rfl, hb13⟩
            have HMW := Lib.hid (HMV.out _ hb13)
            clear hb13 HNUM HMV q1
            go_wp2
            go_ret2
            exact ⟨fun q => absurd q HNO.out, fun _ => ⟨_, _, rfl⟩, HMW.out.1⟩
        · obtain rfl : k = 3 := by omega
          obtain ⟨P0, P1, P2, rfl⟩ : ∃ P0 P1 P2, L = [P0, P1, P2] := by
            have h := HL.out
            match L, h with
            | [a, b, c], _ => exact ⟨a, b, c, rfl⟩
          have HALL := Lib.hid (show ∀ t ∈ [P0, P1, P2], (∀ j : Nat, j < t.size → isD (bt t (j : Int))) ∧ (t.size ≤ 1 ∨ bt t 0 ≠ 48) from hX.out)
          have HP0 := Lib.hid (HALL.out P0 (by simp))
          have HP1 := Lib.hid (HALL.out P1 (by simp))
          have HP2 := Lib.hid (HALL.out P2 (by simp))
          have q0 := (hR.out.cell 0 P0 rfl).1
          clear hX HALL
          by_cases hz0 : P0.size = 0
          · have HNO := Lib.hid (show ¬ AnyForm s from fun z => by have h2 := (HSEG.out z P0 (by simp)).1; omega)
            have HPU := Lib.hid (parse_emp P0 hz0 wr (HE0.out.below hW.out))
            go_wp2_with fail
            refine HPU.out.mono ?_
            rintro e w20 ⟨u0, ty, v, rfl, hb20⟩
            have HC20 := Lib.hid (hW.out.trans (hb20.mono hW.out.size))
            have HK20 := Lib.hid (blk_below hB.out hb20)
            have HRR20 := Lib.hid (hR.out.below hb20)
            have cz : w20.cell? ⟨q, 0, none⟩ = some (.int .u64 0) := by rw [blk_cell HK20.out 0]; rfl
            have fz := blk_frozen HK20.out 0
            clear hb20 HPU q0 hW hB hR
            go_upto_region 33 with fail
            have HD20 := Lib.hid (HC20.out.setCell (p := ⟨q, 0, none⟩) hq (.int .u64 u0))
            have HBK20 := Lib.hid (show (w20.setCell ⟨q, 0, none⟩ (.int .u64 u0)).heap[q]? = some (.cells #[.int .u64 u0, .int .u64 0, .int .u64 0, .string ⟨#[]⟩, .string ⟨#[]⟩, .string s] 69 (0, 0)) from blk_set HK20.out 0 (.int .u64 u0))
            have HRW20 := Lib.hid (HRR20.out.far (p := ⟨q, 0, none⟩) hgq (.int .u64 u0))
            clear HC20 HK20 HRR20 cz fz
            generalize w20.setCell ⟨q, 0, none⟩ (.int .u64 u0) = w21 at *
            go_wp2
            go_ret2
            exact ⟨fun q => absurd q HNO.out, fun _ => ⟨_, _, rfl⟩, HD20.out⟩
          have HS0 := Lib.hid (show SegOk P0 from ⟨Nat.pos_of_ne_zero hz0, HP0.out.1, HP0.out.2⟩)
          obtain ⟨u0, hpu⟩ := parse_seg P0 HS0.out (HD9.out P0 (by simp) HP0.out.1) wr
          have HPU := Lib.hid hpu
          clear hpu hz0 HP0
          go_wp2_with fail
          refine HPU.out.mono ?_
          rintro e w20 ⟨rfl, hb20⟩
          have HC20 := Lib.hid (hW.out.trans (hb20.mono hW.out.size))
          have HK20 := Lib.hid (blk_below hB.out hb20)
          have HRR20 := Lib.hid (hR.out.below hb20)
          have cz : w20.cell? ⟨q, 0, none⟩ = some (.int .u64 0) := by rw [blk_cell HK20.out 0]; rfl
          have fz := blk_frozen HK20.out 0
          clear hb20 HPU q0 hW hB hR
          go_upto_region 33 with fail
          have HD20 := Lib.hid (HC20.out.setCell (p := ⟨q, 0, none⟩) hq (.int .u64 u0))
          have HBK20 := Lib.hid (show (w20.setCell ⟨q, 0, none⟩ (.int .u64 u0)).heap[q]? = some (.cells #[.int .u64 u0, .int .u64 0, .int .u64 0, .string ⟨#[]⟩, .string ⟨#[]⟩, .string s] 69 (0, 0)) from blk_set HK20.out 0 (.int .u64 u0))
          have HRW20 := Lib.hid (HRR20.out.far (p := ⟨q, 0, none⟩) hgq (.int .u64 u0))
          clear HC20 HK20 HRR20 cz fz
          generalize w20.setCell ⟨q, 0, none⟩ (.int .u64 u0) = w21 at *
          have q1 := (HRW20.out.cell 1 P1 rfl).1
          by_cases hz1 : P1.size = 0
          · have HNO := Lib.hid (show ¬ AnyForm s from fun z => by have h2 := (HSEG.out z P1 (by simp)).1; omega)
            have HPU := Lib.hid (parse_emp P1 hz1 w21 (HE0.out.below HD20.out))
            go_wp2_with fail
            refine HPU.out.mono ?_
            rintro e w22 ⟨u1, ty, v, rfl, hb22⟩
            have HC22 := Lib.hid (HD20.out.trans (hb22.mono HD20.out.size))
            have HK22 := Lib.hid (blk_below HBK20.out hb22)
            have HRR22 := Lib.hid (HRW20.out.below hb22)
            have cz : w22.cell? ⟨q, 1, none⟩ = some (.int .u64 0) := by rw [blk_cell HK22.out 1]; rfl
            have fz := blk_frozen HK22.out 1
            clear hb22 HPU q1 HD20 HBK20 HRW20
            go_upto_region 36 with fail
            have HD22 := Lib.hid (HC22.out.setCell (p := ⟨q, 1, none⟩) hq (.int .u64 u1))
            have HBK22 := Lib.hid (show (w22.setCell ⟨q, 1, none⟩ (.int .u64 u1)).heap[q]? = some (.cells #[.int .u64 u0, .int .u64 u1, .int .u64 0, .string ⟨#[]⟩, .string ⟨#[]⟩, .string s] 69 (0, 0)) from blk_set HK22.out 1 (.int .u64 u1))
            have HRW22 := Lib.hid (HRR22.out.far (p := ⟨q, 1, none⟩) hgq (.int .u64 u1))
            clear HC22 HK22 HRR22 cz fz
            generalize w22.setCell ⟨q, 1, none⟩ (.int .u64 u1) = w23 at *
            go_wp2
            go_ret2
            exact ⟨fun q => absurd q HNO.out, fun _ => ⟨_, _, rfl⟩, HD22.out⟩
          have HS1 := Lib.hid (show SegOk P1 from ⟨Nat.pos_of_ne_zero hz1, HP1.out.1, HP1.out.2⟩)
          obtain ⟨u1, hpu⟩ := parse_seg P1 HS1.out (HD9.out P1 (by simp) HP1.out.1) w21
          have HPU := Lib.hid hpu
          clear hpu hz1 HP1
          go_wp2_with fail
          refine HPU.out.mono ?_
          rintro e w22 ⟨rfl, hb22⟩
          have HC22 := Lib.hid (HD20.out.trans (hb22.mono HD20.out.size))
          have HK22 := Lib.hid (blk_below HBK20.out hb22)
          have HRR22 := Lib.hid (HRW20.out.below hb22)
          have cz : w22.cell? ⟨q, 1, none⟩ = some (.int .u64 0) := by rw [blk_cell HK22.out 1]; rfl
          have fz := blk_frozen HK22.out 1
          clear hb22 HPU q1 HD20 HBK20 HRW20
          go_upto_region 36 with fail
          have HD22 := Lib.hid (HC22.out.setCell (p := ⟨q, 1, none⟩) hq (.int .u64 u1))
          have HBK22 := Lib.hid (show (w22.setCell ⟨q, 1, none⟩ (.int .u64 u1)).heap[q]? = some (.cells #[.int .u64 u0, .int .u64 u1, .int .u64 0, .string ⟨#[]⟩, .string ⟨#[]⟩, .string s] 69 (0, 0)) from blk_set HK22.out 1 (.int .u64 u1))
          have HRW22 := Lib.hid (HRR22.out.far (p := ⟨q, 1, none⟩) hgq (.int .u64 u1))
          clear HC22 HK22 HRR22 cz fz
          generalize w22.setCell ⟨q, 1, none⟩ (.int .u64 u1) = w23 at *
          have q2 := (HRW22.out.cell 2 P2 rfl).1
          by_cases hz2 : P2.size = 0
          · have HNO := Lib.hid (show ¬ AnyForm s from fun z => by have h2 := (HSEG.out z P2 (by simp)).1; omega)
            have HPU := Lib.hid (parse_emp P2 hz2 w23 (HE0.out.below HD22.out))
            go_wp2_with fail
            refine HPU.out.mono ?_
            rintro e w24 ⟨u2, ty, v, rfl, hb24⟩
            have HC24 := Lib.hid (HD22.out.trans (hb24.mono HD22.out.size))
            have HK24 := Lib.hid (blk_below HBK22.out hb24)
            have HRR24 := Lib.hid (HRW22.out.below hb24)
            have cz : w24.cell? ⟨q, 2, none⟩ = some (.int .u64 0) := by rw [blk_cell HK24.out 2]; rfl
            have fz := blk_frozen HK24.out 2
            clear hb24 HPU q2 HD22 HBK22 HRW22
            go_upto_region 39 with fail
            have HD24 := Lib.hid (HC24.out.setCell (p := ⟨q, 2, none⟩) hq (.int .u64 u2))
            have HBK24 := Lib.hid (show (w24.setCell ⟨q, 2, none⟩ (.int .u64 u2)).heap[q]? = some (.cells #[.int .u64 u0, .int .u64 u1, .int .u64 u2, .string ⟨#[]⟩, .string ⟨#[]⟩, .string s] 69 (0, 0)) from blk_set HK24.out 2 (.int .u64 u2))
            have HRW24 := Lib.hid (HRR24.out.far (p := ⟨q, 2, none⟩) hgq (.int .u64 u2))
            clear HC24 HK24 HRR24 cz fz
            generalize w24.setCell ⟨q, 2, none⟩ (.int .u64 u2) = w25 at *
            go_wp2
            go_ret2
            exact ⟨fun q => absurd q HNO.out, fun _ => ⟨_, _, rfl⟩, HD24.out⟩
          have HS2 := Lib.hid (show SegOk P2 from ⟨Nat.pos_of_ne_zero hz2, HP2.out.1, HP2.out.2⟩)
          obtain ⟨u2, hpu⟩ := parse_seg P2 HS2.out (HD9.out P2 (by simp) HP2.out.1) w23
          have HPU := Lib.hid hpu
          clear hpu hz2 HP2
          go_wp2_with fail
          refine HPU.out.mono ?_
          rintro e w24 ⟨rfl, hb24⟩
          have HC24 := Lib.hid (HD22.out.trans (hb24.mono HD22.out.size))
          have HK24 := Lib.hid (blk_below HBK22.out hb24)
          have HRR24 := Lib.hid (HRW22.out.below hb24)
          have cz : w24.cell? ⟨q, 2, none⟩ = some (.int .u64 0) := by rw [blk_cell HK24.out 2]; rfl
          have fz := blk_frozen HK24.out 2
          clear hb24 HPU q2 HD22 HBK22 HRW22
          go_upto_region 39 with fail
          have HD24 := Lib.hid (HC24.out.setCell (p := ⟨q, 2, none⟩) hq (.int .u64 u2))
          have HBK24 := Lib.hid (show (w24.setCell ⟨q, 2, none⟩ (.int .u64 u2)).heap[q]? = some (.cells #[.int .u64 u0, .int .u64 u1, .int .u64 u2, .string ⟨#[]⟩, .string ⟨#[]⟩, .string s] 69 (0, 0)) from blk_set HK24.out 2 (.int .u64 u2))
          have HRW24 := Lib.hid (HRR24.out.far (p := ⟨q, 2, none⟩) hgq (.int .u64 u2))
          clear HC24 HK24 HRR24 cz fz
          generalize w24.setCell ⟨q, 2, none⟩ (.int .u64 u2) = w25 at *
          have HY := Lib.hid (show AnyForm s from HFIN.out (fun t ht => by
            simp only [List.mem_cons, List.not_mem_nil, or_false] at ht
            rcases ht with rfl | rfl | rfl
            · exact HS0.out
            · exact HS1.out
            · exact HS2.out))
          clear HS0 HS1 HS2 HFIN HSEG HD9 HSZ
          go_wp2
          go_ret2
          exact ⟨fun _ => ⟨q, rfl⟩, fun z => absurd HY.out z, HD24.out⟩
end Go.Proofs.YtlhijjfbcgconaaDoor.P


/- Versions by the letter: what has the form of a version is parsed by the reference, and is short where no digits are many. -/
set_option linter.unusedVariables false
set_option linter.unusedSimpArgs false
namespace Go.Proofs.YtlhijjfbcgconaaDoor.P
open Go.RowKit Go.Proofs.YtlhijjfbcgconaaDoorW.PrintWords Go.Proofs.YtlhijjfbcgconaaDoorW.PrintLast Go.Proofs.YtlhijjfbcgconaaDoorW.PrintMore

theorem num_of {s : ByteArray} {x m c : Nat} (hm : m ≤ s.size) (hend : m = s.size ∨ ¬ isD (bt s (m : Int))) (hx : x ≤ m) (hc : NumAt9 s x c) (hcm : c ≤ m) : Num (s.extract x m) (c - x) := by
  have h1 := hc.1
  exact (Num_at hm hend hx).2 ⟨by rw [show x + (c - x) = c by omega]; exact hc, by omega⟩
theorem j3_yes (s : ByteArray) (hs : s.size ≤ 100) (m b : Nat) (hm : m ≤ s.size) (hend : m = s.size ∨ ¬ isD (bt s (m : Int))) (hb : b < m) (v1 v2 v3 : Int) (p0 mt : ByteArray) (c : Nat) (hc : NumAt9 s (b + 1) c) (hcm : c ≤ m) (pre : ByteArray) (hp : (c = m ∧ pre = p0) ∨ (c < m ∧ bt s (c : Int) = 45 ∧ PF s true m (c + 1) ∧ pre = s.extract (c + 1) m)) :
    Ev (fun k => spec_ParseVersion.j3 k (s.extract b m) false v1 v2 v3 p0 mt) (v1, v2, dv s (b + 1) (c - (b + 1)), pre, mt, true) := by
  have hz : (s.extract b m).size = m - b := ext_size _ _ _ hm
  have hN := num_of hm hend (by omega) hc hcm
  have hc1 := hc.1
  obtain ⟨r, hr, h1, h2⟩ := number_ev (s.extract (b + 1) m) (by rw [ext_size _ _ _ hm]; omega)
  have hgo : ∀ q, Ev (fun k => (if r.2.2 = true then (if (r.2.1.size : Int) > 0 then (if 0 < (r.2.1.size : Int) then (if (bt r.2.1 0) = 45 then (if 1 ≤ (r.2.1.size : Int) then ((spec_parts.f k (r.2.1.extract 1 r.2.1.size) true).bind fun t113 => (if t113 = true then (some (v1, v2, r.1, r.2.1.extract 1 r.2.1.size, mt, true)) else (some (0, 0, 0, (⟨#[]⟩ : ByteArray), (⟨#[]⟩ : ByteArray), false)))) else (none)) else (some (0, 0, 0, (⟨#[]⟩ : ByteArray), (⟨#[]⟩ : ByteArray), false))) else (none)) else (some (v1, v2, r.1, p0, mt, true))) else (some (0, 0, 0, (⟨#[]⟩ : ByteArray), (⟨#[]⟩ : ByteArray), false)))) q → Ev (fun k => spec_ParseVersion.j3 k (s.extract b m) false v1 v2 v3 p0 mt) q := fun q hq => by
    refine Ev.step (fun k => by rw [spec_ParseVersion.j3]) (Ev.neg (by decide) (Ev.pos (by omega) ?_))
    rw [ext_to s b m 1 hm (by omega)]
    exact Ev.bind hr hq
  obtain ⟨n, rest, ok⟩ := r
  have hok : ok = true := h2 ⟨_, hN⟩
  subst hok
  obtain ⟨d, hn, hv, hrest⟩ := h1 rfl
  simp only at hv hrest
  have hd : d = c - (b + 1) := hn.unique hN
  obtain ⟨hna, hle⟩ := (Num_at hm hend (by omega)).1 hn
  rw [ext_to s (b + 1) m d hm hle, show b + 1 + d = c by omega] at hrest
  have hrz : rest.size = m - c := by rw [hrest]; exact ext_size _ _ _ hm
  have hdv : n = dv s (b + 1) (c - (b + 1)) := by rw [hv, dv_ext (by omega), hd, Nat.add_zero]
  rcases hp with ⟨c1, c2⟩ | ⟨c1, c2, c3, c4⟩
  · rw [← hdv, c2]
    exact hgo _ (Ev.pos rfl (Ev.neg (by simp only; omega) (Ev.ok _)))
  · have hb0 : bt rest 0 = 45 := by rw [hrest, bt_ext0 _ _ _ (by omega)]; exact c2
    have hre : rest.extract 1 rest.size = pre := by rw [hrest, ext_to s c m 1 hm (by omega), c4]
    obtain ⟨q, hq, hqi⟩ := parts_ev (rest.extract 1 rest.size) (by rw [hre, c4, ext_size _ _ _ hm]; omega) true
    have hq1 : q = true := hqi.2 (by
      rw [hre, c4]
      exact (PF_off (by omega) hm).2 c3)
    subst hq1
    rw [← hdv, ← hre]
    exact hgo _ (Ev.pos rfl (Ev.pos (by simp only; omega) (Ev.pos (by simp only; omega) (Ev.pos hb0 (Ev.pos (by simp only; omega) (Ev.bind hq (Ev.pos rfl (Ev.ok _))))))))
theorem j2_yes (s : ByteArray) (hs : s.size ≤ 100) (m a : Nat) (hm : m ≤ s.size) (hend : m = s.size ∨ ¬ isD (bt s (m : Int))) (ha : a < m) (v1 v2 v3 : Int) (p0 mt : ByteArray) (b : Nat) (hb : NumAt9 s (a + 1) b) (hbm : b < m) (db : bt s (b : Int) = 46) (r3 : Int × Int × Int × ByteArray × ByteArray × Bool)
    (h3 : ∀ v2, v2 = dv s (a + 1) (b - (a + 1)) → Ev (fun k => spec_ParseVersion.j3 k (s.extract b m) false v1 v2 v3 p0 mt) r3) :
    Ev (fun k => spec_ParseVersion.j2 k (s.extract a m) false v1 v2 v3 p0 mt) r3 := by
  have hz : (s.extract a m).size = m - a := ext_size _ _ _ hm
  have hN := num_of hm hend (by omega) hb (by omega)
  have hb1 := hb.1
  obtain ⟨r, hr, h1, h2⟩ := number_ev (s.extract (a + 1) m) (by rw [ext_size _ _ _ hm]; omega)
  have hgo : ∀ q, Ev (fun k => (if r.2.2 = true then (if (r.2.1.size : Int) = 0 then (spec_ParseVersion.j3 k r.2.1 true v1 r.1 v3 p0 mt) else (if 0 < (r.2.1.size : Int) then (spec_ParseVersion.j3 k r.2.1 ((bt r.2.1 0) != 46) v1 r.1 v3 p0 mt) else (none))) else (spec_ParseVersion.j3 k r.2.1 true v1 r.1 v3 p0 mt))) q → Ev (fun k => spec_ParseVersion.j2 k (s.extract a m) false v1 v2 v3 p0 mt) q := fun q hq => by
    refine Ev.step (fun k => by rw [spec_ParseVersion.j2]) (Ev.neg (by decide) (Ev.pos (by omega) ?_))
    rw [ext_to s a m 1 hm (by omega)]
    exact Ev.bind hr hq
  obtain ⟨n, rest, ok⟩ := r
  have hok : ok = true := h2 ⟨_, hN⟩
  subst hok
  obtain ⟨d, hn, hv, hrest⟩ := h1 rfl
  simp only at hv hrest
  have hd : d = b - (a + 1) := hn.unique hN
  obtain ⟨hna, hle⟩ := (Num_at hm hend (by omega)).1 hn
  rw [ext_to s (a + 1) m d hm hle, show a + 1 + d = b by omega] at hrest
  have hrz : rest.size = m - b := by rw [hrest]; exact ext_size _ _ _ hm
  have hdv : n = dv s (a + 1) (b - (a + 1)) := by rw [hv, dv_ext (by omega), hd, Nat.add_zero]
  have hb0 : bt rest 0 = 46 := by rw [hrest, bt_ext0 _ _ _ (by omega)]; exact db
  refine hgo _ (Ev.pos rfl (Ev.neg (by simp only; omega) (Ev.pos (by simp only; omega) ?_)))
  simp only
  rw [hb0, hrest]
  exact h3 n hdv
theorem j1_yes (s : ByteArray) (hs : s.size ≤ 100) (m : Nat) (hm : m ≤ s.size) (hend : m = s.size ∨ ¬ isD (bt s (m : Int))) (v1 v2 v3 : Int) (p0 mt : ByteArray) (a : Nat) (ha : NumAt9 s 0 a) (ham : a < m) (da : bt s (a : Int) = 46) (r3 : Int × Int × Int × ByteArray × ByteArray × Bool)
    (h3 : ∀ v1, v1 = dv s 0 a → Ev (fun k => spec_ParseVersion.j2 k (s.extract a m) false v1 v2 v3 p0 mt) r3) :
    Ev (fun k => spec_ParseVersion.j1 k (s.extract 0 m) v1 v2 v3 p0 mt) r3 := by
  have hN := num_of hm hend (Nat.zero_le _) ha (by omega)
  have ha1 := ha.1
  obtain ⟨r, hr, h1, h2⟩ := number_ev (s.extract 0 m) (by rw [ext_size _ _ _ hm]; omega)
  have hgo : ∀ q, Ev (fun k => (if r.2.2 = true then (if (r.2.1.size : Int) = 0 then (spec_ParseVersion.j2 k r.2.1 true r.1 v2 v3 p0 mt) else (if 0 < (r.2.1.size : Int) then (spec_ParseVersion.j2 k r.2.1 ((bt r.2.1 0) != 46) r.1 v2 v3 p0 mt) else (none))) else (spec_ParseVersion.j2 k r.2.1 true r.1 v2 v3 p0 mt))) q → Ev (fun k => spec_ParseVersion.j1 k (s.extract 0 m) v1 v2 v3 p0 mt) q := fun q hq =>
    Ev.step (fun k => by rw [spec_ParseVersion.j1]) (Ev.bind hr hq)
  obtain ⟨n, rest, ok⟩ := r
  have hok : ok = true := h2 ⟨_, hN⟩
  subst hok
  obtain ⟨d, hn, hv, hrest⟩ := h1 rfl
  simp only at hv hrest
  have hd : d = a := (hn.unique hN).trans (Nat.sub_zero _)
  obtain ⟨hna, hle⟩ := (Num_at hm hend (by omega)).1 hn
  rw [ext_to s 0 m d hm hle, Nat.zero_add, hd] at hrest
  have hrz : rest.size = m - a := by rw [hrest]; exact ext_size _ _ _ hm
  have hdv : n = dv s 0 a := by rw [hv, dv_ext (by omega), hd]
  have hb0 : bt rest 0 = 46 := by rw [hrest, bt_ext0 _ _ _ (by omega)]; exact da
  refine hgo _ (Ev.pos rfl (Ev.neg (by simp only; omega) (Ev.pos (by simp only; omega) ?_)))
  simp only
  rw [hb0, hrest]
  exact h3 n hdv
theorem l0_yes (s : ByteArray) (hs : s.size ≤ 100) (m : Nat) (hm : m ≤ s.size) (hno : ∀ j, j < m → bt s (j : Int) ≠ 43) (mt : ByteArray) (hmt : (m = s.size ∧ mt = ⟨#[]⟩) ∨ (m < s.size ∧ bt s (m : Int) = 43 ∧ PF s false s.size (m + 1) ∧ mt = s.extract (m + 1) s.size)) (r : Int × Int × Int × ByteArray × ByteArray × Bool)
    (h : Ev (fun k => spec_ParseVersion.j1 k (s.extract 0 m) 0 0 0 ⟨#[]⟩ mt) r) : ∀ n i : Nat, i + n = m → Ev (fun k => spec_ParseVersion.l0 k s (i : Int) 0 0 0 ⟨#[]⟩ ⟨#[]⟩) r
  | 0, i, hn => by
    obtain rfl : i = m := by omega
    rcases hmt with ⟨g1, g2⟩ | ⟨g1, g2, g3, g4⟩
    · subst g2
      refine Ev.step (fun k => by rw [spec_ParseVersion.l0]) (Ev.neg (by omega) ?_)
      rw [g1, ext_all] at h
      exact h
    · have e1 : wrap64 ((i : Int) + 1) = ((i + 1 : Nat) : Int) := by rw [w64_in (by omega) (by omega)]; omega
      have e2 : (((i + 1 : Nat) : Int)).toNat = i + 1 := by omega
      have e3 : ((i : Int)).toNat = i := by omega
      obtain ⟨q, hq, hqi⟩ := parts_ev (s.extract (i + 1) s.size) (by rw [ext_size _ _ _ (Nat.le_refl _)]; omega) false
      have hq1 : q = true := hqi.2 ((PF_off (by omega) (Nat.le_refl _)).2 g3)
      subst hq1
      refine Ev.step (fun k => by rw [spec_ParseVersion.l0]) (Ev.pos (by omega) (Ev.pos (by omega) (Ev.pos g2 (Ev.pos (by rw [e1]; omega) (Ev.pos (by rw [e1]; omega) (Ev.pos (by omega) ?_))))))
      rw [e1, e2, e3]
      rw [g4] at h
      exact Ev.bind hq (Ev.pos rfl h)
  | n + 1, i, hn => by
    have e1 : wrap64 ((i : Int) + 1) = ((i + 1 : Nat) : Int) := by rw [w64_in (by omega) (by omega)]; omega
    refine Ev.step (fun k => by rw [spec_ParseVersion.l0]) (Ev.pos (by omega) (Ev.pos (by omega) (Ev.neg (hno i (by omega)) ?_)))
    rw [e1]
    exact l0_yes s hs m hm hno mt hmt r h n (i + 1) (by omega)
theorem form_parse {s : ByteArray} {a b c m : Nat} {n1 n2 n3 : Int} {pre mt : ByteArray} (h : Form9 s a b c m n1 n2 n3 pre mt) : Ev (fun k => spec_ParseVersion.f k s) (n1, n2, n3, pre, mt, true) := by
  have hs := h.size
  have hcm := h.cm
  have hms := h.ms
  have h3 := h.d3.1
  have h2 := h.d2.1
  have hend : m = s.size ∨ ¬ isD (bt s (m : Int)) := by
    rcases h.hmeta with ⟨g, _⟩ | ⟨_, g, _⟩
    · exact .inl g
    · exact .inr (by rw [g]; unfold isD; omega)
  unfold spec_ParseVersion.f
  refine Ev.neg (by omega) ?_
  refine l0_yes s hs m hms h.noplus mt h.hmeta _ ?_ m 0 (by omega)
  refine j1_yes s hs m hms hend 0 0 0 _ mt a h.d1 (by omega) h.p1 _ (fun v1 hv1 => ?_)
  refine j2_yes s hs m a hms hend (by omega) v1 0 0 _ mt b h.d2 (by omega) h.p2 _ (fun v2 hv2 => ?_)
  have := j3_yes s hs m b hms hend (by omega) v1 v2 0 ⟨#[]⟩ mt c h.d3 hcm pre h.hpre
  rw [hv1, hv2, ← h.v1, ← h.v2, ← h.v3] at this
  rw [hv1, hv2, ← h.v1, ← h.v2]
  exact this
theorem Ev.inj {α : Type} {f : Nat → Option α} {a b : α} (h1 : Ev f a) (h2 : Ev f b) : a = b := by
  obtain ⟨K1, h1⟩ := h1
  obtain ⟨K2, h2⟩ := h2
  have e1 := h1 (max K1 K2) (by omega)
  have e2 := h2 (max K1 K2) (by omega)
  rw [e1] at e2
  exact Option.some.inj e2
/-! ### short -/
theorem good_dig {p : ByteArray} {x z : Nat} (h9 : Dig9 p) (hx : x ≤ z) (hz : z ≤ p.size) (hd : Dg (p.extract x z)) : (p.extract x z).size ≤ 9 := by
  have := h9 x z hx hz (fun j q1 q2 => by
    have h4 := hd (j - x) (by rw [ext_size _ _ _ hz]; omega)
    rw [bt_ext p x z (j - x) (by omega), show x + (j - x) = j by omega] at h4
    exact h4)
  rw [ext_size _ _ _ hz]
  omega
theorem split2_d (p : ByteArray) (hp : p.size ≤ 100) (h9 : Dig9 p) (strict : Bool) : ∀ {x : Nat}, PF p strict p.size x → ∀ (acc l : List ByteArray), Ev (fun k => semver_zzSplit.l0 k (p.extract x p.size) ⟨#[46]⟩ acc) (acc ++ l) → acc.length + (p.size - x) ≤ 1000 → ∀ t ∈ l, Dg t → t.size ≤ 9 := by
  intro x h
  have h1 : ((⟨#[46]⟩ : ByteArray).size : Int) = 1 := rfl
  induction h with
  | @last x h hP hs =>
    intro acc l hl hacc t ht hd
    have hz : (p.extract x p.size).size = p.size - x := ext_size _ _ _ (Nat.le_refl _)
    have hi := index_dot (p.extract x p.size) (by omega) (p.extract x p.size).size (Nat.le_refl _) (.inl rfl) (p.extract x p.size).size 0 (by omega) (fun j _ hj => by
      rw [bt_ext p x p.size j (by omega)]
      intro q
      have := hP (x + j) (by omega) (by omega)
      rw [q] at this
      exact dot_notP this)
    rw [if_pos rfl] at hi
    have he : Ev (fun k => semver_zzSplit.l0 k (p.extract x p.size) ⟨#[46]⟩ acc) (acc ++ [p.extract x p.size]) := by
      refine Ev.step (fun k => by rw [semver_zzSplit.l0]) ?_
      refine Ev.bind (by unfold semver_zzIndex.f; exact hi) ?_
      exact Ev.pos (by decide) (Ev.pos (by omega) (Ev.ok _))
    have e := List.append_cancel_left (Ev.inj hl he)
    rw [e] at ht
    rw [List.mem_singleton.1 ht] at hd ⊢
    exact good_dig h9 (by omega) (Nat.le_refl _) hd
  | @more x z h hz2 hP hs hdd r ih =>
    intro acc l hl hacc t ht hd
    have hz : (p.extract x p.size).size = p.size - x := ext_size _ _ _ (Nat.le_refl _)
    have hi := index_dot (p.extract x p.size) (by omega) (z - x) (by omega) (.inr (by rw [bt_ext p x p.size (z - x) (by omega), show x + (z - x) = z by omega]; exact hdd)) (z - x) 0 (by omega) (fun j _ hj => by
      rw [bt_ext p x p.size j (by omega)]
      intro q
      have := hP (x + j) (by omega) (by omega)
      rw [q] at this
      exact dot_notP this)
    rw [if_neg (by omega)] at hi
    obtain ⟨l2, hl2, _, _, _⟩ := split_l p hp strict r (acc ++ [p.extract x z]) (by rw [List.length_append, List.length_singleton]; omega)
    have he : Ev (fun k => semver_zzSplit.l0 k (p.extract x p.size) ⟨#[46]⟩ acc) (acc ++ (p.extract x z :: l2)) := by
      refine Ev.step (fun k => by rw [semver_zzSplit.l0]) ?_
      refine Ev.bind (by unfold semver_zzIndex.f; exact hi) ?_
      rw [h1, w64_in (by omega) (by omega), show (((z - x : Nat) : Int) + 1).toNat = z - x + 1 by omega, Int.toNat_natCast]
      refine Ev.neg (by omega) (Ev.pos (by omega) (Ev.pos (by omega) (Ev.pos (by omega) (Ev.pos (by omega) (Ev.pos (by omega) ?_)))))
      rw [hz, ext_ext p x p.size _ _ (by omega), ext_ext p x p.size _ _ (by omega), show x + (z - x + 1) = z + 1 by omega, show x + (p.size - x) = p.size by omega, show x + (z - x) = z by omega, Nat.add_zero, show acc ++ p.extract x z :: l2 = (acc ++ [p.extract x z]) ++ l2 by rw [List.append_assoc]; rfl]
      exact hl2
    have e := List.append_cancel_left (Ev.inj hl he)
    rw [e] at ht
    rcases List.mem_cons.1 ht with ht | ht
    · rw [ht] at hd ⊢
      exact good_dig h9 (by omega) (by omega) hd
    · exact ih (acc ++ [p.extract x z]) l2 hl2 (by rw [List.length_append, List.length_singleton]; omega) t ht hd
theorem Dig9.ext {s : ByteArray} (h : Dig9 s) {a b : Nat} (hb : b ≤ s.size) : Dig9 (s.extract a b) := by
  intro x e hx he hd
  rw [ext_size _ _ _ hb] at he
  by_cases hab : a ≤ b
  case neg => omega
  have := h (a + x) (a + e) (by omega) (by omega) (fun j q1 q2 => by
    have h4 := hd (j - a) (by omega) (by omega)
    rw [bt_ext s a b (j - a) (by omega), show a + (j - a) = j by omega] at h4
    exact h4)
  omega
theorem short_all (l : List ByteArray) (hl : l.length ≤ 1000) (hz : ∀ t ∈ l, t.size ≤ 100) (hd : ∀ t ∈ l, Dg t → t.size ≤ 9) : ∀ n i : Nat, i + n = l.length → Ev (fun k => spec_Short.l0 k l (i : Int)) true
  | 0, i, hi => Ev.step (fun k => by rw [spec_Short.l0]) (Ev.neg (by omega) (Ev.ok _))
  | n + 1, i, hi => by
    have ih := short_all l hl hz hd n (i + 1) (by omega)
    have hil : i < l.length := by omega
    have hr : rdOf ByteArray.empty l (i : Int) = l[i] := by simp [rdOf, hil]
    have e1 : wrap64 ((i : Int) + 1) = ((i + 1 : Nat) : Int) := by rw [w64_in (by omega) (by omega)]; omega
    have hzi := hz l[i] (List.getElem_mem _)
    obtain ⟨x, hx, hxi⟩ := onlyD l[i] (by omega)
    refine Ev.step (fun k => by rw [spec_Short.l0]) (Ev.pos (by omega) (Ev.pos (by omega) ?_))
    rw [hr, e1]
    refine Ev.bind hx ?_
    cases x with
    | true =>
      have := hd l[i] (List.getElem_mem _) (hxi.1 rfl)
      exact Ev.pos rfl (Ev.neg (by omega) ih)
    | false => exact Ev.neg (by decide) ih
theorem form_short {s : ByteArray} {a b c m : Nat} {n1 n2 n3 : Int} {pre mt : ByteArray} (h : Form9 s a b c m n1 n2 n3 pre mt) (h9 : Dig9 s) : Ev (fun k => spec_Short.f k n1 n2 n3 pre mt) true := by
  rcases h.wide.pfpre with h0 | ⟨h1, h2, h3⟩
  · unfold spec_Short.f
    rw [h0]
    exact Ev.bind ids_nil (short_all [⟨#[]⟩] (by decide) (fun t ht => by rw [List.mem_singleton.1 ht]; decide) (fun t ht _ => by rw [List.mem_singleton.1 ht]; decide) 1 0 rfl)
  · have hp9 : Dig9 pre := by
      rcases h.hpre with ⟨_, g⟩ | ⟨_, _, _, g⟩
      · rw [g] at h1; exact absurd h1 (by decide)
      · rw [g]; exact h9.ext h.ms
    obtain ⟨l, e1, e2, g, hl⟩ := split2_ev pre h2 true h3
    unfold spec_Short.f
    refine Ev.bind e2 (short_all l (by omega) (fun t ht => (g t ht).2.1) ?_ l.length 0 (by omega))
    refine split2_d pre h2 hp9 true h3 [] l ?_ (by simp; omega)
    rw [ext_all]
    unfold semver_zzSplit.f at e1
    exact e1
end Go.Proofs.YtlhijjfbcgconaaDoor.P


/- Versions by the letter: digits side by side, a v ahead, the text of a version. -/
set_option linter.unusedVariables false
set_option linter.unusedSimpArgs false
namespace Go.Proofs.YtlhijjfbcgconaaDoor.P
open Go.RowKit Go.Proofs.YtlhijjfbcgconaaDoorW.PrintWords Go.Proofs.YtlhijjfbcgconaaDoorW.PrintLast Go.Proofs.YtlhijjfbcgconaaDoorW.PrintMore

/-! ### how many digits stand side by side -/
theorem digits_l (s : ByteArray) (hs : s.size ≤ 100) : ∀ n i : Nat, i + n = s.size → ∀ most cnt : Int, 0 ≤ most → 0 ≤ cnt → cnt ≤ i →
    ∃ r : Int, Ev (fun k => spec_Digits.l0 k s most cnt (i : Int)) r ∧ most ≤ r ∧ (∀ x e : Nat, i ≤ x → x ≤ e → e ≤ s.size → (∀ j, x ≤ j → j < e → isD (bt s (j : Int))) → ((e - x : Nat) : Int) ≤ r) ∧ (∀ e : Nat, i < e → e ≤ s.size → (∀ j, i ≤ j → j < e → isD (bt s (j : Int))) → cnt + ((e - i : Nat) : Int) ≤ r)
  | 0, i, hi, most, cnt, hm, hc, _ => ⟨most, Ev.step (fun k => by rw [spec_Digits.l0]) (Ev.neg (by omega) (Ev.ok _)), Int.le_refl _, fun x e h1 h2 h3 _ => by omega, fun e h1 h2 _ => by omega⟩
  | n + 1, i, hi, most, cnt, hm, hc, hci => by
    have e1 : wrap64 ((i : Int) + 1) = ((i + 1 : Nat) : Int) := by rw [w64_in (by omega) (by omega)]; omega
    by_cases c : isD (bt s (i : Int))
    · have hd := c
      unfold isD at hd
      have e2 : wrap64 (cnt + 1) = cnt + 1 := w64_in (by omega) (by omega)
      obtain ⟨r, h1, h2, h3, h4⟩ := digits_l s hs n (i + 1) (by omega) (mx most (cnt + 1)) (cnt + 1) (by unfold mx; split <;> omega) (by omega) (by omega)
      have hmx : most ≤ mx most (cnt + 1) ∧ cnt + 1 ≤ mx most (cnt + 1) := by unfold mx; split <;> omega
      have h5 : ∀ e : Nat, i < e → e ≤ s.size → (∀ j, i ≤ j → j < e → isD (bt s (j : Int))) → cnt + ((e - i : Nat) : Int) ≤ r := fun e q1 q2 q3 => by
        by_cases q : e = i + 1
        · omega
        · have := h4 e (by omega) q2 (fun j g1 g2 => q3 j (by omega) g2)
          omega
      refine ⟨r, Ev.step (fun k => by rw [spec_Digits.l0]) (Ev.pos (by omega) (Ev.pos (by omega) (Ev.neg (by omega) (Ev.neg (by omega) (by rw [e1, e2]; exact h1))))), by omega, fun x e q1 q2 q3 q4 => ?_, h5⟩
      by_cases q : x = i
      · by_cases q5 : e = x
        · omega
        · have := h5 e (by omega) q3 (fun j g1 g2 => q4 j (by omega) g2)
          omega
      · exact h3 x e (by omega) q2 q3 q4
    · obtain ⟨r, h1, h2, h3, h4⟩ := digits_l s hs n (i + 1) (by omega) most 0 hm (Int.le_refl 0) (by omega)
      refine ⟨r, Ev.step (fun k => by rw [spec_Digits.l0]) (Ev.pos (by omega) (Ev.pos (by omega) ?_)), h2, fun x e q1 q2 q3 q4 => ?_, fun e q1 q2 q3 => absurd (q3 i (Nat.le_refl _) q1) c⟩
      · rw [e1]
        by_cases c2 : bt s (i : Int) < 48
        · exact Ev.pos c2 h1
        · exact Ev.neg c2 (Ev.pos (by unfold isD at c; omega) h1)
      · by_cases q : x = i
        · by_cases q5 : e = x
          · omega
          · exact absurd (q4 i (by omega) (by omega)) c
        · exact h3 x e (by omega) q2 q3 q4
theorem digits_ev (s : ByteArray) (hs : s.size ≤ 100) : ∃ r : Int, Ev (fun k => spec_Digits.f k s) r ∧ (r ≤ 9 → Dig9 s) := by
  obtain ⟨r, h1, h2, h3, _⟩ := digits_l s hs s.size 0 (by omega) 0 0 (by decide) (by decide) (by decide)
  refine ⟨r, by unfold spec_Digits.f; exact h1, fun q x e q1 q2 q3 => ?_⟩
  have := h3 x e (Nat.zero_le _) q1 q2 q3
  omega
/-! ### a v ahead -/
structure LooseAt (s : ByteArray) (i0 a b c m : Nat) (pre meta_ : ByteArray) : Prop where
  size : s.size ≤ 101
  d1 : i0 < a ∧ ∀ j, i0 ≤ j → j < a → isD (bt s (j : Int))
  p1 : bt s (a : Int) = 46
  q1 : a < s.size
  d2 : a + 1 < b ∧ ∀ j, a + 1 ≤ j → j < b → isD (bt s (j : Int))
  p2 : bt s (b : Int) = 46
  q2 : b < s.size
  d3 : b + 1 < c ∧ ∀ j, b + 1 ≤ j → j < c → isD (bt s (j : Int))
  e3 : c = s.size ∨ ¬ isD (bt s (c : Int))
  cm : c ≤ m
  ms : m ≤ s.size
  hpre : (c = m ∧ pre = ⟨#[]⟩) ∨ (c < m ∧ bt s (c : Int) = 45 ∧ PF s true m (c + 1) ∧ pre = s.extract (c + 1) m)
  hmeta : (m = s.size ∧ meta_ = ⟨#[]⟩) ∨ (m < s.size ∧ bt s (m : Int) = 43 ∧ PF s false s.size (m + 1) ∧ meta_ = s.extract (m + 1) s.size)
theorem loose_from {s : ByteArray} {i0 a b c m : Nat} {pre mt : ByteArray} (h : LooseAt s i0 a b c m pre mt) :
    Ev (fun k => semver_zzLoose.j1 k s [s, ⟨#[]⟩, ⟨#[]⟩, ⟨#[]⟩, ⟨#[]⟩, ⟨#[]⟩, ⟨#[]⟩, ⟨#[]⟩, ⟨#[]⟩] (i0 : Int)) [s, s.extract i0 a, s.extract a b, s.extract b c, s.extract c m, pre, ⟨#[]⟩, s.extract m s.size, mt] := by
  have o0 := h.d1.1
  have o1 := h.d2.1
  have o2 := h.d3.1
  have o4 := h.cm
  have o5 := h.ms
  have o6 := h.size
  have hs : s.size ≤ 100000 := by omega
  have w1 : ∀ i : Nat, i ≤ 101 → wrap64 ((i : Int) + 1) = ((i + 1 : Nat) : Int) := fun i hi => by rw [w64_in (by omega) (by omega)]; omega
  have tn : ∀ i : Nat, ((i : Int)).toNat = i := fun i => Int.toNat_natCast i
  have hq1' := h.q1
  have hq2' := h.q2
  have ra := zzDigits_run s hs i0 a (by omega) (by omega) (.inr (by rw [h.p1]; unfold isD; omega)) h.d1.2
  have rb := zzDigits_run s hs (a + 1) b (by omega) (by omega) (.inr (by rw [h.p2]; unfold isD; omega)) h.d2.2
  have rc := zzDigits_run s hs (b + 1) c (by omega) (by omega) h.e3 h.d3.2
  -- the end
  have r6 : Ev (fun k => semver_zzLoose.j6 k s [s, s.extract i0 a, s.extract a b, s.extract b c, s.extract c m, pre, ⟨#[]⟩, s.extract m s.size, mt] (s.size : Int)) [s, s.extract i0 a, s.extract a b, s.extract b c, s.extract c m, pre, ⟨#[]⟩, s.extract m s.size, mt] :=
    Ev.step (fun k => by rw [semver_zzLoose.j6]) (Ev.pos rfl (Ev.ok _))
  have r5 : Ev (fun k => semver_zzLoose.j5 k s [s, s.extract i0 a, s.extract a b, s.extract b c, s.extract c m, pre, ⟨#[]⟩, ⟨#[]⟩, ⟨#[]⟩] (m : Int)) [s, s.extract i0 a, s.extract a b, s.extract b c, s.extract c m, pre, ⟨#[]⟩, s.extract m s.size, mt] := by
    refine Ev.step (fun k => by rw [semver_zzLoose.j5]) ?_
    rcases h.hmeta with ⟨g1, g2⟩ | ⟨g1, g2, g3, g4⟩
    · refine Ev.bind (zzParts_none s m 43 (.inl g1)) (Ev.neg (by omega) ?_)
      rw [g1, ext_nil, g2]
      rw [g1, ext_nil, g2] at r6
      exact r6
    · refine Ev.bind (zzParts_run s hs false m s.size 43 g1 g2 (Nat.le_refl _) (.inl rfl) g3) (Ev.pos (by omega) ?_)
      rw [w1 m (by omega), tn, tn, tn]
      refine Ev.pos (by omega) (Ev.pos (by omega) (Ev.pos (by omega) (Ev.pos (by omega) (Ev.pos (by omega) (Ev.pos (by simp) (Ev.pos (by simp) ?_))))))
      rw [g4] at r6 ⊢
      exact r6
  have r4 : Ev (fun k => semver_zzLoose.j4 k s [s, s.extract i0 a, s.extract a b, s.extract b c, ⟨#[]⟩, ⟨#[]⟩, ⟨#[]⟩, ⟨#[]⟩, ⟨#[]⟩] (c : Int)) [s, s.extract i0 a, s.extract a b, s.extract b c, s.extract c m, pre, ⟨#[]⟩, s.extract m s.size, mt] := by
    refine Ev.step (fun k => by rw [semver_zzLoose.j4]) ?_
    rcases h.hpre with ⟨g1, g2⟩ | ⟨g1, g2, g3, g4⟩
    · have hno : c = s.size ∨ (c < s.size ∧ bt s (c : Int) ≠ 45) := by
        rcases h.hmeta with ⟨q1, q2⟩ | ⟨q1, q2, _⟩
        · exact .inl (by omega)
        · rw [g1]
          exact .inr ⟨q1, by rw [q2]; decide⟩
      refine Ev.bind (zzParts_none s c 45 hno) (Ev.neg (by omega) ?_)
      rw [← g1, ext_nil, g2] at r5 ⊢
      exact r5
    · have hend : m = s.size ∨ (¬ isP (bt s (m : Int)) ∧ bt s (m : Int) ≠ 46) := by
        rcases h.hmeta with ⟨q1, q2⟩ | ⟨q1, q2, _⟩
        · exact .inl q1
        · exact .inr (by rw [q2]; exact ⟨by unfold isP; omega, by decide⟩)
      refine Ev.bind (zzParts_run s hs true c m 45 (by omega) g2 (by omega) hend g3) (Ev.pos (by omega) ?_)
      rw [w1 c (by omega), tn, tn, tn]
      refine Ev.pos (by omega) (Ev.pos (by omega) (Ev.pos (by omega) (Ev.pos (by omega) (Ev.pos (by omega) (Ev.pos (by simp) (Ev.pos (by simp) ?_))))))
      rw [g4] at r5 ⊢
      exact r5
  have r3 : Ev (fun k => semver_zzLoose.l0 k s [s, s.extract i0 a, s.extract a b, s.extract b c, ⟨#[]⟩, ⟨#[]⟩, ⟨#[]⟩, ⟨#[]⟩, ⟨#[]⟩] (c : Int) 4) [s, s.extract i0 a, s.extract a b, s.extract b c, s.extract c m, pre, ⟨#[]⟩, s.extract m s.size, mt] :=
    Ev.step (fun k => by rw [semver_zzLoose.l0]) (Ev.neg (by decide) r4)
  have r2 : Ev (fun k => semver_zzLoose.l0 k s [s, s.extract i0 a, s.extract a b, ⟨#[]⟩, ⟨#[]⟩, ⟨#[]⟩, ⟨#[]⟩, ⟨#[]⟩, ⟨#[]⟩] (b : Int) 3) [s, s.extract i0 a, s.extract a b, s.extract b c, s.extract c m, pre, ⟨#[]⟩, s.extract m s.size, mt] := by
    have hq := h.q2
    refine Ev.step (fun k => by rw [semver_zzLoose.l0]) (Ev.pos (by decide) (Ev.pos (by omega) (Ev.pos (by omega) (Ev.pos h.p2 ?_))))
    rw [w1 b (by omega)]
    refine Ev.bind rc ?_
    rw [decide_eq_true (by omega)]
    refine Ev.step (fun k => by rw [semver_zzLoose.j3]) (Ev.pos rfl ?_)
    rw [w1 b (by omega), tn]
    refine Ev.bind rc ?_
    rw [tn]
    refine Ev.pos (by omega) (Ev.pos (by omega) (Ev.pos (by omega) (Ev.pos (by decide) (Ev.pos (by simp) ?_))))
    rw [show wrap64 (3 + 1) = 4 from w64_in (by decide) (by decide)]
    exact r3
  have r1 : Ev (fun k => semver_zzLoose.l0 k s [s, s.extract i0 a, ⟨#[]⟩, ⟨#[]⟩, ⟨#[]⟩, ⟨#[]⟩, ⟨#[]⟩, ⟨#[]⟩, ⟨#[]⟩] (a : Int) 2) [s, s.extract i0 a, s.extract a b, s.extract b c, s.extract c m, pre, ⟨#[]⟩, s.extract m s.size, mt] := by
    have hq := h.q1
    refine Ev.step (fun k => by rw [semver_zzLoose.l0]) (Ev.pos (by decide) (Ev.pos (by omega) (Ev.pos (by omega) (Ev.pos h.p1 ?_))))
    rw [w1 a (by omega)]
    refine Ev.bind rb ?_
    rw [decide_eq_true (by omega)]
    refine Ev.step (fun k => by rw [semver_zzLoose.j3]) (Ev.pos rfl ?_)
    rw [w1 a (by omega), tn]
    refine Ev.bind rb ?_
    rw [tn]
    refine Ev.pos (by omega) (Ev.pos (by omega) (Ev.pos (by omega) (Ev.pos (by decide) (Ev.pos (by simp) ?_))))
    rw [show wrap64 (2 + 1) = 3 from w64_in (by decide) (by decide)]
    exact r2
  refine Ev.step (fun k => by rw [semver_zzLoose.j1]) ?_
  refine Ev.bind ra ?_
  refine Ev.neg (by omega) ?_
  rw [tn, tn]
  refine Ev.pos (by omega) (Ev.pos (by omega) (Ev.pos (by omega) (Ev.pos (by simp) ?_)))
  exact r1
/-- The text with a v ahead. -/
def vT (s : ByteArray) : ByteArray := (⟨#[118]⟩ : ByteArray) ++ s
theorem vT_size (s : ByteArray) : (vT s).size = 1 + s.size := by unfold vT; rw [ByteArray.size_append]; rfl
theorem vT_list (s : ByteArray) : (vT s).data.toList = 118 :: s.data.toList := by
  unfold vT
  simp [append_list]
theorem vT_ext (s : ByteArray) (x y : Nat) : (vT s).extract (1 + x) (1 + y) = s.extract x y := by
  apply ba_ext
  rw [extract_list, extract_list, vT_list, show 1 + x = x + 1 by omega, List.drop_succ_cons, show 1 + y - (x + 1) = y - x by omega]
theorem vT_bt (s : ByteArray) (j : Nat) : bt (vT s) ((1 + j : Nat) : Int) = bt s (j : Int) := by
  rw [bt_opt, bt_opt, vT_list, show 1 + j = j + 1 by omega, List.getElem?_cons_succ]
theorem vT_zero (s : ByteArray) : bt (vT s) 0 = 118 := by
  have := bt_opt (vT s) 0
  rw [vT_list] at this
  exact this
theorem vT_PF {s : ByteArray} {strict : Bool} {y x : Nat} (h : PF s strict y x) (hy : y ≤ s.size) : PF (vT s) strict (1 + y) (1 + x) := by
  have e : s = (vT s).extract 1 (1 + s.size) := by
    have := vT_ext s 0 s.size
    rw [ext_all] at this
    exact this.symm
  rw [e] at h
  exact PF_ext (a := 1) (b := 1 + s.size) (by omega) h
theorem vT_loose {s : ByteArray} {a b c m : Nat} {n1 n2 n3 : Int} {pre mt : ByteArray} (h : Form s a b c m n1 n2 n3 pre mt) : LooseAt (vT s) 1 (1 + a) (1 + b) (1 + c) (1 + m) pre mt := by
  obtain ⟨o1, o2, o3, o4, o5, o6⟩ := h.notD
  have hz := vT_size s
  obtain ⟨_, _, _, da, ea, _⟩ := h.d1
  obtain ⟨_, _, _, db, eb, _⟩ := h.d2
  obtain ⟨_, _, _, dc, ec, _⟩ := h.d3
  have hq1 := h.q1
  have hq2 := h.q2
  have hdig : ∀ x y : Nat, (∀ j, x ≤ j → j < y → isD (bt s (j : Int))) → ∀ j, 1 + x ≤ j → j < 1 + y → isD (bt (vT s) (j : Int)) := fun x y q j g1 g2 => by
    have := q (j - 1) (by omega) (by omega)
    rw [← vT_bt, show 1 + (j - 1) = j by omega] at this
    exact this
  refine ⟨by omega, ⟨by omega, fun j g1 g2 => hdig 0 a da j (by omega) g2⟩, by rw [vT_bt]; exact h.p1, by omega, ⟨by omega, fun j g1 g2 => hdig (a + 1) b db j (by omega) g2⟩, by rw [vT_bt]; exact h.p2, by omega, ⟨by omega, fun j g1 g2 => hdig (b + 1) c dc j (by omega) g2⟩, ?_, by omega, by omega, ?_, ?_⟩
  · rw [vT_bt]
    exact ec.imp (fun q => by omega) id
  · rcases h.hpre with ⟨g1, g2⟩ | ⟨g1, g2, g3, g4⟩
    · exact .inl ⟨by omega, g2⟩
    · refine .inr ⟨by omega, by rw [vT_bt]; exact g2, by have := vT_PF g3 o5; rw [show 1 + (c + 1) = 1 + c + 1 by omega] at this; exact this, by rw [g4, ← vT_ext, show 1 + (c + 1) = 1 + c + 1 by omega]⟩
  · rcases h.hmeta with ⟨g1, g2⟩ | ⟨g1, g2, g3, g4⟩
    · exact .inl ⟨by omega, g2⟩
    · refine .inr ⟨by omega, by rw [vT_bt]; exact g2, by have := vT_PF g3 (Nat.le_refl _); rw [show 1 + (m + 1) = 1 + m + 1 by omega, ← hz] at this; exact this, by rw [g4, ← vT_ext, hz, show 1 + (m + 1) = 1 + m + 1 by omega]⟩
theorem loose_v {s : ByteArray} {a b c m : Nat} {n1 n2 n3 : Int} {pre mt : ByteArray} (h : Form s a b c m n1 n2 n3 pre mt) :
    Ev (fun k => semver_zzLoose.f k (vT s)) [vT s, s.extract 0 a, s.extract a b, s.extract b c, s.extract c m, pre, ⟨#[]⟩, s.extract m s.size, mt] := by
  have hl := loose_from (vT_loose h)
  have hz := vT_size s
  have e0 := vT_ext s 0 a
  rw [Nat.add_zero] at e0
  rw [e0, vT_ext, vT_ext, vT_ext, hz, vT_ext] at hl
  have rz : Ev (fun k => semver_zzLoose.j0 k (vT s) [vT s, ⟨#[]⟩, ⟨#[]⟩, ⟨#[]⟩, ⟨#[]⟩, ⟨#[]⟩, ⟨#[]⟩, ⟨#[]⟩, ⟨#[]⟩] 0 true) [vT s, s.extract 0 a, s.extract a b, s.extract b c, s.extract c m, pre, ⟨#[]⟩, s.extract m s.size, mt] := by
    refine Ev.step (fun k => by rw [semver_zzLoose.j0]) ?_
    refine Ev.pos rfl ?_
    rw [show wrap64 (0 + 1) = ((1 : Nat) : Int) from w64_in (by decide) (by decide)]
    exact hl
  unfold semver_zzLoose.f
  refine Ev.pos (by decide) (Ev.bind (Ev.ok _) (Ev.pos (by simp) (Ev.bind (Ev.ok _) ?_)))
  refine Ev.pos (by omega) ?_
  rw [vT_zero]
  exact rz
/-! ### the text of a version -/
theorem dv_pos {s : ByteArray} {x : Nat} : ∀ {d : Nat}, 0 < d → (∀ j, x ≤ j → j < x + d → isD (bt s (j : Int))) → bt s (x : Int) ≠ 48 → 1 ≤ dv s x d
  | 0, h, _, _ => by omega
  | 1, _, h, h2 => by
    have h3 := h x (Nat.le_refl _) (by omega)
    unfold isD at h3
    show 1 ≤ dv s x 0 * 10 + (bt s ((x + 0 : Nat) : Int) - 48)
    rw [Nat.add_zero]
    show 1 ≤ (0 : Int) * 10 + _
    omega
  | d + 2, _, h, h2 => by
    have ih := dv_pos (s := s) (x := x) (d := d + 1) (by omega) (fun j q1 q2 => h j q1 (by omega)) h2
    have h3 := h (x + (d + 1)) (by omega) (by omega)
    unfold isD at h3
    show 1 ≤ dv s x (d + 1) * 10 + (bt s ((x + (d + 1) : Nat) : Int) - 48)
    omega
theorem u8_of_dig {x : UInt8} (h : 48 ≤ x.toNat ∧ x.toNat ≤ 57) (n : Nat) (hn : n = x.toNat - 48) : UInt8.ofNat (48 + n) = x := by
  apply UInt8.toNat_inj.1
  rw [UInt8.toNat_ofNat']
  have := x.toNat_lt
  omega
theorem dec_of {s : ByteArray} {x : Nat} : ∀ {d : Nat}, 0 < d → x + d ≤ s.size → (∀ j, x ≤ j → j < x + d → isD (bt s (j : Int))) → (d = 1 ∨ bt s (x : Int) ≠ 48) → Lib.decDigits (dv s x d).toNat = (s.extract x (x + d)).data.toList
  | 0, h, _, _, _ => by omega
  | 1, _, hz, h, _ => by
    have h3 := h x (Nat.le_refl _) (by omega)
    have hb := bt_nat s x (by omega)
    unfold isD at h3
    have hv : dv s x 1 = bt s (x : Int) - 48 := by
      show dv s x 0 * 10 + (bt s ((x + 0 : Nat) : Int) - 48) = _
      rw [Nat.add_zero]
      show (0 : Int) * 10 + _ = _
      omega
    rw [hv, ext_one s x (by omega), Lib.decDigits_one (by omega), u8_of_dig (x := s[x]'(by omega)) (by omega) _ (by omega)]
  | d + 2, _, hz, h, h2 => by
    have h48 : bt s (x : Int) ≠ 48 := h2.resolve_left (by omega)
    have ih := dec_of (s := s) (x := x) (d := d + 1) (by omega) (by omega) (fun j q1 q2 => h j q1 (by omega)) (.inr h48)
    have hp := dv_pos (s := s) (x := x) (d := d + 1) (by omega) (fun j q1 q2 => h j q1 (by omega)) h48
    have h3 := h (x + (d + 1)) (by omega) (by omega)
    have hb := bt_nat s (x + (d + 1)) (by omega)
    unfold isD at h3
    have hv : dv s x (d + 2) = dv s x (d + 1) * 10 + (bt s ((x + (d + 1) : Nat) : Int) - 48) := rfl
    have hN : (dv s x (d + 2)).toNat = (dv s x (d + 1)).toNat * 10 + ((s[x + (d + 1)]'(by omega)).toNat - 48) := by omega
    rw [Lib.decDigits, dif_neg (by omega), show x + (d + 2) = x + (d + 1 + 1) by omega, ext_snoc s x (d + 1) (by omega), ← ih]
    congr 1
    · congr 1
      omega
    · rw [u8_of_dig (x := s[x + (d + 1)]'(by omega)) (by omega) _ (by omega)]
theorem decd_at {s : ByteArray} {x e : Nat} (h : NumAt s x e) : decd (dv s x (e - x)).toNat = s.extract x e := by
  obtain ⟨h1, h2, h3, h4, h5, h6⟩ := h
  have := dec_of (s := s) (x := x) (d := e - x) (by omega) (by omega) (fun j q1 q2 => h4 j q1 (by omega)) (h6.imp (fun q => by omega) id)
  rw [show x + (e - x) = e by omega] at this
  apply ba_ext
  unfold decd
  show (Lib.decDigits _).toArray.toList = _
  exact this
theorem ext_join (s : ByteArray) {x y z : Nat} (h1 : x ≤ y) (h2 : y ≤ z) : s.extract x y ++ s.extract y z = s.extract x z := by
  apply ba_ext
  rw [append_list, extract_list, extract_list, extract_list, show z - x = (y - x) + (z - y) by omega, List.take_add, List.drop_drop, show x + (y - x) = y by omega]
theorem ext_sign (s : ByteArray) (a : Nat) (c : UInt8) (ha : a < s.size) (h : bt s (a : Int) = ((c.toNat : Nat) : Int)) : (⟨#[c]⟩ : ByteArray) = s.extract a (a + 1) := by
  apply ba_ext
  rw [ext_one s a ha]
  have := bt_nat s a ha
  have h2 : s[a]'ha = c := UInt8.toNat_inj.1 (by omega)
  rw [h2]
theorem empty_l {p : ByteArray} (h : 0 < p.size) : p.toList ≠ [] := by
  intro q
  have := full_t h
  rw [q] at this
  cases this
theorem form_string {s : ByteArray} {a b c m : Nat} {n1 n2 n3 : Int} {pre mt : ByteArray} (h : Form s a b c m n1 n2 n3 pre mt) (og : ByteArray) (k : Nat) : semver_Version_String.f (k + 1) n1 n2 n3 pre mt og = some s := by
  obtain ⟨o1, o2, o3, o4, o5, o6⟩ := h.notD
  obtain ⟨_, p1a, p1b⟩ := parse_at s 0 a h.d1
  obtain ⟨_, p2a, p2b⟩ := parse_at s (a + 1) b h.d2
  obtain ⟨_, p3a, p3b⟩ := parse_at s (b + 1) c h.d3
  have f1 : strconv_FormatUint_60.f n1 10 = some (s.extract 0 a) := by
    have := fmt_f (dv s 0 (a - 0)).toNat (by omega)
    rw [decd_at h.d1, Int.toNat_of_nonneg p1a, Nat.sub_zero, ← h.v1] at this
    exact this
  have f2 : strconv_FormatUint_60.f n2 10 = some (s.extract (a + 1) b) := by
    have := fmt_f (dv s (a + 1) (b - (a + 1))).toNat (by omega)
    rw [decd_at h.d2, Int.toNat_of_nonneg p2a, ← h.v2] at this
    exact this
  have f3 : strconv_FormatUint_60.f n3 10 = some (s.extract (b + 1) c) := by
    have := fmt_f (dv s (b + 1) (c - (b + 1))).toNat (by omega)
    rw [decd_at h.d3, Int.toNat_of_nonneg p3a, ← h.v3] at this
    exact this
  have hq1 := h.q1
  have hq2 := h.q2
  have ed1 := ext_sign s a 46 h.q1 h.p1
  have ed2 := ext_sign s b 46 h.q2 h.p2
  have hT3 : ((((s.extract 0 a ++ (⟨#[46]⟩ : ByteArray)) ++ s.extract (a + 1) b) ++ (⟨#[46]⟩ : ByteArray)) ++ s.extract (b + 1) c) = s.extract 0 c := by
    conv => lhs; rw [ed1]
    rw [ext_join s (by omega) (by omega), ext_join s (by omega) (by omega), ← ed1, ed2, ext_join s (by omega) (by omega), ext_join s (by omega) (by omega)]
  have hT1 : (s.extract 0 a ++ (⟨#[46]⟩ : ByteArray)) = s.extract 0 (a + 1) := by rw [ed1, ext_join s (by omega) (by omega)]
  have hT2 : ((s.extract 0 a ++ (⟨#[46]⟩ : ByteArray)) ++ s.extract (a + 1) b) = s.extract 0 b := by rw [hT1, ext_join s (by omega) (by omega)]
  have hsz : ∀ x y : Nat, (s.extract x y).size ≤ 100 := fun x y => by rw [ByteArray.size_extract]; omega
  have z1 := hsz 0 a
  have z2 := hsz (a + 1) b
  have z3 := hsz (b + 1) c
  have z4 := hsz 0 (a + 1)
  have z5 := hsz 0 b
  have z6 := hsz 0 c
  have zm := hsz 0 m
  have one : (⟨#[46]⟩ : ByteArray).size = 1 := rfl
  have j0 : ∀ T : ByteArray, T = s.extract 0 m → semver_Version_String.j0 (k + 1) T n1 n2 n3 pre mt og = some s := fun T hT => by
    rw [semver_Version_String.j0]
    rcases h.hmeta with ⟨g1, g2⟩ | ⟨g1, g2, g3, g4⟩
    · rw [if_pos (by rw [g2]; exact emp_list), hT, g1, ext_all]
    · have e43 := ext_sign s m 43 g1 g2
      have hj : (⟨#[43]⟩ : ByteArray) ++ mt = s.extract m s.size := by rw [e43, g4, ext_join s (by omega) (by omega)]
      have hmz : mt.size ≤ 100 := by rw [g4]; exact hsz _ _
      have hjz := hsz m s.size
      have hpf := g3.lt
      rw [if_neg (empty_l (by rw [g4, ext_size _ _ _ (Nat.le_refl _)]; omega)), if_pos (by omega), hj, hT, if_pos (by omega), ext_join s (by omega) (by omega), ext_all]
  unfold semver_Version_String.f
  rw [f1, Option.bind_some, if_pos (by omega), f2, Option.bind_some, if_pos (by rw [hT1]; omega), if_pos (by rw [hT2]; omega), f3, Option.bind_some, if_pos (by rw [hT2, ByteArray.size_append]; omega), hT3]
  rcases h.hpre with ⟨g1, g2⟩ | ⟨g1, g2, g3, g4⟩
  · rw [if_pos (by rw [g2]; exact emp_list)]
    exact j0 _ (by rw [g1])
  · have e45 := ext_sign s c 45 (by omega) g2
    have hj : (⟨#[45]⟩ : ByteArray) ++ pre = s.extract c m := by rw [e45, g4, ext_join s (by omega) (by omega)]
    have hpz : pre.size ≤ 100 := by rw [g4]; exact hsz _ _
    have hjz := hsz c m
    have hpf := g3.lt
    rw [if_neg (empty_l (by rw [g4, ext_size _ _ _ (by omega)]; omega)), if_pos (by omega), hj, if_pos (by omega), ext_join s (by omega) (by omega)]
    exact j0 _ rfl
end Go.Proofs.YtlhijjfbcgconaaDoor.P


/- FnSemverText holds. -/
set_option linter.unusedVariables false
set_option linter.unusedSimpArgs false
namespace Go.Proofs.YtlhijjfbcgconaaDoor.P
open Go.RowKit Go.Proofs.YtlhijjfbcgconaaDoorW.PrintWords Go.Proofs.YtlhijjfbcgconaaDoorW.PrintLast Go.Proofs.YtlhijjfbcgconaaDoorW.PrintMore

set_option maxHeartbeats 1600000 in
set_option maxRecDepth 100000 in
theorem coerce_v {s : ByteArray} {a b c m : Nat} {n1 n2 n3 : Int} {pre mt : ByteArray} (h : Form s a b c m n1 n2 n3 pre mt) (w : World) :
    Calls Tryd.prog 51 #[.string (vT s)] w fun e w' => ∃ q : Nat, e = .returned (.tuple #[.pointer (some ⟨q, 0, none⟩), .nilIface]) ∧ w.heap.size ≤ q ∧ w'.heap[q]? = some (.cells (verCells n1 n2 n3 pre mt (vT s)) 69 (0, 0)) ∧ Below w.heap.size w w' := by
  obtain ⟨K, hK⟩ := loose_v h
  have HLO := Lib.hid (semver_zzLoose.calls K (vT s) _ w (hK K (Nat.le_refl _)))
  have HPP := Lib.hid h.pfpre
  have HPM := Lib.hid h.pfmeta
  obtain ⟨o1, o2, o3, o4, o5, o6⟩ := h.notD
  have HPU0 := Lib.hid (fun W => parse_call s 0 a h.d1 h.size W)
  have HPU1 := Lib.hid (fun W => parse_call s (a + 1) b h.d2 h.size W)
  have HPU2 := Lib.hid (fun W => parse_call s (b + 1) c h.d3 h.size W)
  have HTR1 := Lib.hid (fun W => trim_call s a b h.p1 o1 h.d2.2.2.1 W)
  have HTR2 := Lib.hid (fun W => trim_call s b c h.p2 o2 h.d3.2.2.1 W)
  rw [Nat.sub_zero, ← h.v1] at HPU0
  rw [← h.v2] at HPU1
  rw [← h.v3] at HPU2
  have hne2 : (s.extract a b).toList.isEmpty = false := full_t (by rw [ext_size _ _ _ h.d2.2.2.1]; omega)
  have hne3 : (s.extract b c).toList.isEmpty = false := full_t (by rw [ext_size _ _ _ h.d3.2.2.1]; omega)
  clear hK h o1 o2 o3 o4 o5 o6
  generalize vT s = og at *
  generalize s.extract 0 a = D1 at *
  generalize s.extract a b = D2 at *
  generalize s.extract b c = D3 at *
  generalize s.extract (a + 1) b = E2 at *
  generalize s.extract (b + 1) c = E3 at *
  generalize s.extract c m = Z1 at *
  generalize s.extract m s.size = Z2 at *
  go_enter Tryd.func51, Tryd.ntmps51
  go_wp2_with fail
  refine HLO.out.mono ?_
  rintro e w1 ⟨v, rfl, hr, hb⟩
  obtain ⟨inner, ho⟩ := Kd.R_own hr
  obtain ⟨g, cc, rfl, hBg⟩ : ∃ g cc, v = .slice (some ⟨g, 0, none⟩) 9 cc ∧ w.heap.size ≤ g := by
    rcases ho.2 with ⟨_, h2⟩ | ⟨g, cap, cur, h1, hb, hg, _⟩
    · simp at h2
    · exact ⟨g, _, h1, hb⟩
  have HR := Lib.hid hr
  have HB := Lib.hid hb
  clear hr hb ho HLO
  have hnil : ∀ W : World, (binOp BinOp.eql 62 (Value.slice (some ⟨g, 0, none⟩) 9 cc) (Value.slice none 0 0)).run Tryd.prog W = .ok (.bool false) W := fun W => by kernel_rfl
  have HCELL := Lib.hid (fun (W : World) (hW : Below w1.heap.size w1 W) => show (W.cell? ⟨g, 1, none⟩ = some (.string D1) ∧ W.cell? ⟨g, 2, none⟩ = some (.string D2) ∧ W.cell? ⟨g, 3, none⟩ = some (.string D3)) ∧ W.cell? ⟨g, 5, none⟩ = some (.string pre) ∧ W.cell? ⟨g, 8, none⟩ = some (.string mt) from by
    have hR := Kd.R_below HR.out hW
    exact ⟨⟨(Kd.R_celln (⟨#[]⟩ : ByteArray) hR (1 : Int) (by decide) (by decide)).1, (Kd.R_celln (⟨#[]⟩ : ByteArray) hR (2 : Int) (by decide) (by decide)).1, (Kd.R_celln (⟨#[]⟩ : ByteArray) hR (3 : Int) (by decide) (by decide)).1⟩, (Kd.R_celln (⟨#[]⟩ : ByteArray) hR (5 : Int) (by decide) (by decide)).1, (Kd.R_celln (⟨#[]⟩ : ByteArray) hR (8 : Int) (by decide) (by decide)).1⟩)
  clear HR
  go_upto_region 4 with fail
  have HD := Lib.hid (below_drew1 (Below.refl w1.heap.size w1))
  obtain ⟨_, c5, c8⟩ := HCELL.out w1 (Below.refl _ _)
  have c5d : w1.drew.cell? ⟨g, 5, none⟩ = some (.string pre) := c5
  have c8d : w1.drew.cell? ⟨g, 8, none⟩ = some (.string mt) := c8
  go_still_tail 8, (by kernel_rfl)
  change wpList _ _ _ _ _ w1.drew
  generalize w1.drew = w2 at *
  clear c5 c8 c5d c8d hnil
  go_upto_region 6 with fail
  have HB3 := Lib.hid (HD.out.alloc HD.out.size (.cells #[.int .u64 0, .int .u64 0, .int .u64 0, .string pre, .string mt, .string og] 69))
  have HBK3 := Lib.hid (heap_alloc_new w2 (.cells #[.int .u64 0, .int .u64 0, .int .u64 0, .string pre, .string mt, .string og] 69))
  have hq : w1.heap.size ≤ w2.heap.size := HD.out.size
  have HQ := Lib.hid (show w.heap.size ≤ w2.heap.size from Nat.le_trans HB.out.size hq)
  clear HD
  generalize w2.alloc (.cells #[.int .u64 0, .int .u64 0, .int .u64 0, .string pre, .string mt, .string og] 69) = w3 at *
  generalize w2.heap.size = q at *
  obtain ⟨⟨c1, c2, c3⟩, c5, c8⟩ := HCELL.out w3 HB3.out
  clear c2 c3 c5 c8
  go_wp2_with fail
  refine (HPU0.out _).mono ?_
  rintro e w4 ⟨rfl, hb4⟩
  have HB4 := Lib.hid (HB3.out.trans (hb4.mono HB3.out.size))
  have HBK4 := Lib.hid (blk_below HBK3.out hb4)
  have cz : w4.cell? ⟨q, 0, none⟩ = some (.int .u64 0) := by rw [blk_cell HBK4.out 0]; rfl
  have fz := blk_frozen HBK4.out 0
  clear hb4 HPU0 HB3 HBK3 c1
  go_upto_region 7 with fail
  have HB5 := Lib.hid (HB4.out.setCell (p := ⟨q, 0, none⟩) hq (.int .u64 n1))
  have HBK5 := Lib.hid (show (w4.setCell ⟨q, 0, none⟩ (.int .u64 n1)).heap[q]? = some (.cells #[.int .u64 n1, .int .u64 0, .int .u64 0, .string pre, .string mt, .string og] 69 (0, 0)) from blk_set HBK4.out 0 (.int .u64 n1))
  clear HB4 HBK4 cz fz
  generalize w4.setCell ⟨q, 0, none⟩ (.int .u64 n1) = w5 at *
  obtain ⟨⟨c1, c2, c3⟩, c5, c8⟩ := HCELL.out w5 HB5.out
  clear c1 c3 c5 c8
  go_wp2_with fail
  refine (HTR1.out _).mono ?_
  rintro e _ ⟨rfl, rfl⟩
  clear HTR1
  go_wp2_with fail
  refine (HPU1.out _).mono ?_
  rintro e w6 ⟨rfl, hb4⟩
  have HB6 := Lib.hid (HB5.out.trans (hb4.mono HB5.out.size))
  have HBK6 := Lib.hid (blk_below HBK5.out hb4)
  have cz : w6.cell? ⟨q, 1, none⟩ = some (.int .u64 0) := by rw [blk_cell HBK6.out 1]; rfl
  have fz := blk_frozen HBK6.out 1
  clear hb4 HPU1 HB5 HBK5 c2
  go_upto_region 11 with fail
  have HB7 := Lib.hid (HB6.out.setCell (p := ⟨q, 1, none⟩) hq (.int .u64 n2))
  have HBK7 := Lib.hid (show (w6.setCell ⟨q, 1, none⟩ (.int .u64 n2)).heap[q]? = some (.cells #[.int .u64 n1, .int .u64 n2, .int .u64 0, .string pre, .string mt, .string og] 69 (0, 0)) from blk_set HBK6.out 1 (.int .u64 n2))
  clear HB6 HBK6 cz fz
  generalize w6.setCell ⟨q, 1, none⟩ (.int .u64 n2) = w7 at *
  obtain ⟨⟨c1, c2, c3⟩, c5, c8⟩ := HCELL.out w7 HB7.out
  clear c1 c2 c5 c8
  go_wp2_with fail
  refine (HTR2.out _).mono ?_
  rintro e _ ⟨rfl, rfl⟩
  clear HTR2
  go_wp2_with fail
  refine (HPU2.out _).mono ?_
  rintro e w8 ⟨rfl, hb4⟩
  have HB8 := Lib.hid (HB7.out.trans (hb4.mono HB7.out.size))
  have HBK8 := Lib.hid (blk_below HBK7.out hb4)
  have cz : w8.cell? ⟨q, 2, none⟩ = some (.int .u64 0) := by rw [blk_cell HBK8.out 2]; rfl
  have fz := blk_frozen HBK8.out 2
  clear hb4 HPU2 HB7 HBK7 c3
  go_upto_region 16 with fail
  have HB9 := Lib.hid (HB8.out.setCell (p := ⟨q, 2, none⟩) hq (.int .u64 n3))
  have HBK9 := Lib.hid (show (w8.setCell ⟨q, 2, none⟩ (.int .u64 n3)).heap[q]? = some (.cells #[.int .u64 n1, .int .u64 n2, .int .u64 n3, .string pre, .string mt, .string og] 69 (0, 0)) from blk_set HBK8.out 2 (.int .u64 n3))
  clear HB8 HBK8 cz fz
  generalize w8.setCell ⟨q, 2, none⟩ (.int .u64 n3) = w9 at *
  have x3 : w9.cell? ⟨q, 3, none⟩ = some (.string pre) := by rw [blk_cell HBK9.out 3]; rfl
  have x4 : w9.cell? ⟨q, 4, none⟩ = some (.string mt) := by rw [blk_cell HBK9.out 4]; rfl
  clear HCELL
  rcases HPP.out with pre0 | ⟨pre1, pre2, pre3⟩
  · have pree : pre.toList.isEmpty = true := by rw [pre0, ByteArray.toList_eq]; rfl
    clear pre0
    rcases HPM.out with mt0 | ⟨mt1, mt2, mt3⟩
    · have mte : mt.toList.isEmpty = true := by rw [mt0, ByteArray.toList_eq]; rfl
      clear mt0
      have HF := Lib.hid (HB.out.trans (HB9.out.mono HB.out.size))
      go_wp2
      go_ret2
      exact ⟨q, rfl, HQ.out, HBK9.out, HF.out⟩
    · have mte := full_t mt1
      have Hmt := Lib.hid (fun W => validMeta mt mt2 mt3 W)
      clear mt1 mt2 mt3
      go_wp2_with fail
      refine (Hmt.out _).mono ?_
      rintro e w10 ⟨rfl, hb10⟩
      have HB10 := Lib.hid (HB9.out.trans (hb10.mono HB9.out.size))
      have HBK10 := Lib.hid (blk_below HBK9.out hb10)
      have y3 : w10.cell? ⟨q, 3, none⟩ = some (.string pre) := by rw [blk_cell HBK10.out 3]; rfl
      have y4 : w10.cell? ⟨q, 4, none⟩ = some (.string mt) := by rw [blk_cell HBK10.out 4]; rfl
      clear hb10 Hmt
      have HF := Lib.hid (HB.out.trans (HB10.out.mono HB.out.size))
      go_wp2
      go_ret2
      exact ⟨q, rfl, HQ.out, HBK10.out, HF.out⟩
  · have pree := full_t pre1
    have Hpre := Lib.hid (fun W => validPre pre pre2 pre3 W)
    clear pre1 pre2 pre3
    go_wp2_with fail
    refine (Hpre.out _).mono ?_
    rintro e w10 ⟨rfl, hb10⟩
    have HB10 := Lib.hid (HB9.out.trans (hb10.mono HB9.out.size))
    have HBK10 := Lib.hid (blk_below HBK9.out hb10)
    have y3 : w10.cell? ⟨q, 3, none⟩ = some (.string pre) := by rw [blk_cell HBK10.out 3]; rfl
    have y4 : w10.cell? ⟨q, 4, none⟩ = some (.string mt) := by rw [blk_cell HBK10.out 4]; rfl
    clear hb10 Hpre
    rcases HPM.out with mt0 | ⟨mt1, mt2, mt3⟩
    · have mte : mt.toList.isEmpty = true := by rw [mt0, ByteArray.toList_eq]; rfl
      clear mt0
      have HF := Lib.hid (HB.out.trans (HB10.out.mono HB.out.size))
      go_wp2
      go_ret2
      exact ⟨q, rfl, HQ.out, HBK10.out, HF.out⟩
    · have mte := full_t mt1
      have Hmt := Lib.hid (fun W => validMeta mt mt2 mt3 W)
      clear mt1 mt2 mt3
      go_wp2_with fail
      refine (Hmt.out _).mono ?_
      rintro e w11 ⟨rfl, hb11⟩
      have HB11 := Lib.hid (HB10.out.trans (hb11.mono HB10.out.size))
      have HBK11 := Lib.hid (blk_below HBK10.out hb11)
      have y3 : w11.cell? ⟨q, 3, none⟩ = some (.string pre) := by rw [blk_cell HBK11.out 3]; rfl
      have y4 : w11.cell? ⟨q, 4, none⟩ = some (.string mt) := by rw [blk_cell HBK11.out 4]; rfl
      clear hb11 Hmt
      have HF := Lib.hid (HB.out.trans (HB11.out.mono HB.out.size))
      go_wp2
      go_ret2
      exact ⟨q, rfl, HQ.out, HBK11.out, HF.out⟩
set_option maxHeartbeats 1600000 in
set_option maxRecDepth 100000 in
theorem newVersion_v {s : ByteArray} {a b c m : Nat} {n1 n2 n3 : Int} {pre mt : ByteArray} (h : Form s a b c m n1 n2 n3 pre mt) (w : World) :
    Calls Tryd.prog 28 #[.string (vT s)] w fun e w' => ∃ q : Nat, e = .returned (.tuple #[.pointer (some ⟨q, 0, none⟩), .nilIface]) ∧ w.heap.size ≤ q ∧ w'.heap[q]? = some (.cells (verCells n1 n2 n3 pre mt (vT s)) 69 (0, 0)) ∧ Below w.heap.size w w' := by
  have HC := Lib.hid (coerce_v h w)
  have hs := h.size
  have hz := vT_size s
  have d0 : decide (256 < ((vT s).size : Int)) = false := decide_eq_false (by omega)
  have d1 : decide (256 < (vT s).size) = false := decide_eq_false (by omega)
  clear h hz
  generalize vT s = og at *
  go_enter Tryd.func28, Tryd.ntmps28
  go_wp2_with fail
  refine HC.out.mono ?_
  rintro e w1 ⟨q, rfl, hq, hk, hb⟩
  have HK := Lib.hid hk
  have HB := Lib.hid hb
  have HQ := Lib.hid hq
  clear hk hb hq HC
  go_wp2
  go_ret2
  exact ⟨q, rfl, HQ.out, HK.out, HB.out⟩
set_option maxHeartbeats 1600000 in
set_option maxRecDepth 100000 in
theorem implText_of {s t og : ByteArray} {a b c m : Nat} {n1 n2 n3 : Int} {pre mt : ByteArray} (h : Form s a b c m n1 n2 n3 pre mt)
    (hnv : ∀ w : World, Calls Tryd.prog 28 #[.string t] w fun e w' => ∃ q : Nat, e = .returned (.tuple #[.pointer (some ⟨q, 0, none⟩), .nilIface]) ∧ w.heap.size ≤ q ∧ w'.heap[q]? = some (.cells (verCells n1 n2 n3 pre mt og) 69 (0, 0)) ∧ Below w.heap.size w w') (w : World) (hT : TabsW w) :
    Calls Tryd.prog 17 #[.string t] w fun e w' => e = .returned (.tuple #[.string s, .bool true]) ∧ Below w.heap.size w w' := by
  have HN := Lib.hid (hnv w)
  have HS := Lib.hid (fun (W : World) (hW : TabsW W) => semver_Version_String.calls 1 n1 n2 n3 pre mt og s W (form_string h og 0) hW)
  have HT := Lib.hid hT
  clear h hnv hT
  go_enter Tryd.func17, Tryd.ntmps17
  go_wp2_with fail
  refine HN.out.mono ?_
  rintro e w1 ⟨q, rfl, hq, hk, hb⟩
  have HB := Lib.hid hb
  have y0 : w1.cell? ⟨q, 0, none⟩ = some (.int .u64 n1) := by rw [blk_cell hk 0]; rfl
  have y1 : w1.cell? ⟨q, 1, none⟩ = some (.int .u64 n2) := by rw [blk_cell hk 1]; rfl
  have y2 : w1.cell? ⟨q, 2, none⟩ = some (.int .u64 n3) := by rw [blk_cell hk 2]; rfl
  have y3 : w1.cell? ⟨q, 3, none⟩ = some (.string pre) := by rw [blk_cell hk 3]; rfl
  have y4 : w1.cell? ⟨q, 4, none⟩ = some (.string mt) := by rw [blk_cell hk 4]; rfl
  have y5 : w1.cell? ⟨q, 5, none⟩ = some (.string og) := by rw [blk_cell hk 5]; rfl
  clear hb hk hq HN
  go_wp2_with fail
  refine (HS.out _ (HT.out.below HB.out)).mono ?_
  rintro e w2 ⟨rfl, hb2⟩
  have HB2 := Lib.hid (HB.out.trans (hb2.mono HB.out.size))
  clear hb2 HS HB y0 y1 y2 y3 y4 y5
  go_wp2
  go_ret2
  exact ⟨rfl, HB2.out⟩
set_option maxHeartbeats 1600000 in
set_option maxRecDepth 100000 in
theorem implStrict_yes (s : ByteArray) (hs : s.size ≤ 100) (h : AnyForm s) (w : World) (hE : TabsE w) :
    Calls Tryd.prog 16 #[.string s] w fun e w' => e = .returned (.bool true) ∧ Below w.heap.size w w' := by
  have HC := Lib.hid (strict_call s hs (.inl h) w hE)
  have HF := Lib.hid h
  clear hs h hE
  go_enter Tryd.func16, Tryd.ntmps16
  go_wp2_with fail
  refine HC.out.mono ?_
  rintro e w1 ⟨h1, _, hb⟩
  obtain ⟨q, rfl⟩ := h1 HF.out
  have HB := Lib.hid hb
  clear hb h1 HC
  go_wp2
  go_ret
  exact ⟨rfl, HB.out⟩
set_option maxHeartbeats 1600000 in
set_option maxRecDepth 100000 in
theorem implStrict_no (s : ByteArray) (hs : s.size ≤ 100) (h9 : Dig9 s) (h : ¬ AnyForm s) (w : World) (hE : TabsE w) :
    Calls Tryd.prog 16 #[.string s] w fun e w' => e = .returned (.bool false) ∧ Below w.heap.size w w' := by
  have HC := Lib.hid (strict_call s hs (.inr h9) w hE)
  have HF := Lib.hid h
  clear hs h9 h hE
  go_enter Tryd.func16, Tryd.ntmps16
  go_wp2_with fail
  refine HC.out.mono ?_
  rintro e w1 ⟨_, h1, hb⟩
  obtain ⟨ty, v, rfl⟩ := h1 HF.out
  have HB := Lib.hid hb
  clear hb h1 HC
  go_wp2
  go_ret
  exact ⟨rfl, HB.out⟩
def t123 : ByteArray := ⟨#[49, 46, 50, 46, 51]⟩
theorem t123_num (x : Nat) (hx : x < 5) (hd : isD (bt t123 (x : Int))) (hend : x + 1 = 5 ∨ ¬ isD (bt t123 ((x + 1 : Nat) : Int))) : NumAt9 t123 x (x + 1) :=
  ⟨by omega, by omega, (by show x + 1 ≤ 5; omega), (fun j h1 h2 => (show j = x by omega) ▸ hd), hend, .inl rfl⟩
theorem t123_form : AnyForm t123 := by
  refine ⟨1, 3, 5, 5, 1, 2, 3, ⟨#[]⟩, ⟨#[]⟩, ⟨by decide, t123_num 0 (by decide) (by decide +kernel) (.inr (by decide +kernel)), by decide +kernel, by decide, t123_num 2 (by decide) (by decide +kernel) (.inr (by decide +kernel)), by decide +kernel, by decide, t123_num 4 (by decide) (by decide +kernel) (.inl rfl), by decide, by decide, .inl ⟨rfl, rfl⟩, .inl ⟨rfl, rfl⟩, by decide +kernel, by decide +kernel, by decide +kernel, fun j hj => ?_⟩⟩
  have : ∀ j : Fin 5, bt t123 ((j.val : Nat) : Int) ≠ 43 := by decide +kernel
  exact this ⟨j, hj⟩
theorem v9t (s : ByteArray) : ∃ (n1 n2 n3 : Int) (pre mt : ByteArray) (q : Bool), (∀ W : World, Calls Tryd.prog 12 #[.string s] W fun e w' => e = .returned (.tuple #[.agg #[.int .u64 n1, .int .u64 n2, .int .u64 n3, .string pre, .string mt], .bool q]) ∧ Below W.heap.size W w') ∧
    (q = true → ∃ a b c d, Form9 s a b c d n1 n2 n3 pre mt) ∧ (q = false → Dig9 s → ¬ AnyForm s) := by
  obtain ⟨⟨n1, n2, n3, pre, mt, ok⟩, ⟨K, hK⟩, hf⟩ := parse_ev9 s
  cases ok with
  | false =>
    refine ⟨n1, n2, n3, pre, mt, false, fun W => version9_no K s n1 n2 n3 pre mt (hK K (Nat.le_refl _)) W, (fun h => by cases h), fun _ _ => ?_⟩
    rintro ⟨a, b, c, m, m1, m2, m3, pr, me, hform⟩
    have e := Ev.inj (⟨K, hK⟩ : Ev _ _) (form_parse hform)
    simp at e
  | true =>
    obtain ⟨a, b, c, d, hform⟩ := hf rfl
    obtain ⟨q, l, ⟨K2, hK2⟩, hq⟩ := short_ev hform.wide
    refine ⟨n1, n2, n3, pre, mt, q, fun W => version9_call (max K K2) s n1 n2 n3 pre mt (hK _ (by omega)) q (hK2 _ (by omega)) W, fun h => ⟨a, b, c, d, hform⟩, fun h h9 => ?_⟩
    have e := Ev.inj (⟨K2, hK2⟩ : Ev _ _) (form_short hform h9)
    rw [e] at h
    cases h
theorem beq_self_l (s : ByteArray) : (s.toList == s.toList) = true := beq_self_eq_true _
set_option maxHeartbeats 1600000 in
set_option maxRecDepth 100000 in
theorem fnSemverText (s : ByteArray) (w : World) (hs0 : s.size ≤ 140737488351232) (hE : TabsE w) (hW : TabsW w) :
    Calls Tryd.prog 5 #[.string s] w fun e w' => e = .returned (.bool true) ∧ Below w.heap.size w w' := by
  have HB := Lib.hid (Below.refl w.heap.size w)
  by_cases c0 : 2147483647 < (s.size : Int)
  · have dc0 : decide (2147483647 < (s.size : Int)) = true := decide_eq_true c0
    clear hE hW
    go_enter Tryd.func5, Tryd.ntmps5
    go_wp2
    go_ret
    exact ⟨rfl, HB.out⟩
  have dc0 : decide (2147483647 < (s.size : Int)) = false := decide_eq_false c0
  obtain ⟨n1, n2, n3, pre, mt, ok, hv, hf, hno⟩ := v9t s
  have HV := Lib.hid (hv w)
  have HE := Lib.hid hE
  have HT := Lib.hid hW
  clear hv hE hW
  cases ok with
  | false =>
    by_cases c1 : 100 < s.size
    · have d1 : decide (100 < (s.size : Int)) = true := decide_eq_true (by omega)
      clear hf hno c0 c1
      go_enter Tryd.func5, Tryd.ntmps5
      go_wp2_with fail
      refine HV.out.mono ?_
      rintro e w1 ⟨rfl, hb1⟩
      have HB1 := Lib.hid (hb1.alloc hb1.size (.cells #[.int .u64 n1, .int .u64 n2, .int .u64 n3, .string pre, .string mt] 24))
      clear hb1 HV
      go_wp2
      go_ret
      exact ⟨rfl, HB1.out⟩
    · have d1 : decide (100 < (s.size : Int)) = false := decide_eq_false (by omega)
      obtain ⟨r, ⟨K, hK⟩, hr⟩ := digits_ev s (by omega)
      have HD := Lib.hid (fun W => spec_Digits.calls K s r W (hK K (Nat.le_refl _)))
      by_cases c2 : 9 < r
      · have d2 : decide (9 < r) = true := decide_eq_true c2
        clear hf hno c0 c1 hK hr c2
        go_enter Tryd.func5, Tryd.ntmps5
        go_wp2_with fail
        refine HV.out.mono ?_
        rintro e w1 ⟨rfl, hb1⟩
        have HB1 := Lib.hid (hb1.alloc hb1.size (.cells #[.int .u64 n1, .int .u64 n2, .int .u64 n3, .string pre, .string mt] 24))
        clear hb1 HV
        go_upto_region 4 with fail
        generalize w1.alloc (.cells #[.int .u64 n1, .int .u64 n2, .int .u64 n3, .string pre, .string mt] 24) = w2 at *
        go_wp2_with fail
        refine (HD.out _).mono ?_
        rintro e w3 ⟨rfl, hb3⟩
        have HB3 := Lib.hid (HB1.out.trans (hb3.mono HB1.out.size))
        clear hb3 HD HB1
        go_wp2
        go_ret
        exact ⟨rfl, HB3.out⟩
      · have d2 : decide (9 < r) = false := decide_eq_false c2
        have h9 := hr (by omega)
        have HS := Lib.hid (fun W hW => implStrict_no s (by omega) h9 (hno rfl h9) W hW)
        have H1 := Lib.hid (fun W hW => implStrict_yes t123 (by decide) t123_form W hW)
        unfold t123 at H1
        clear hf hno c0 c1 hK hr c2 h9
        go_enter Tryd.func5, Tryd.ntmps5
        go_wp2_with fail
        refine HV.out.mono ?_
        rintro e w1 ⟨rfl, hb1⟩
        have HB1 := Lib.hid (hb1.alloc hb1.size (.cells #[.int .u64 n1, .int .u64 n2, .int .u64 n3, .string pre, .string mt] 24))
        clear hb1 HV
        go_upto_region 4 with fail
        generalize w1.alloc (.cells #[.int .u64 n1, .int .u64 n2, .int .u64 n3, .string pre, .string mt] 24) = w2 at *
        go_wp2_with fail
        refine (HD.out _).mono ?_
        rintro e w3 ⟨rfl, hb3⟩
        have HB3 := Lib.hid (HB1.out.trans (hb3.mono HB1.out.size))
        clear hb3 HD HB1
        go_wp2_with fail
        refine (HS.out _ (HE.out.below HB3.out)).mono ?_
        rintro e w4 ⟨rfl, hb4⟩
        have HB4 := Lib.hid (HB3.out.trans (hb4.mono HB3.out.size))
        clear hb4 HS HB3
        go_wp2_with fail
        refine (H1.out _ (HE.out.below HB4.out)).mono ?_
        rintro e w5 ⟨rfl, hb5⟩
        have HB5 := Lib.hid (HB4.out.trans (hb5.mono HB4.out.size))
        clear hb5 H1 HB4
        go_wp2
        go_ret
        exact ⟨rfl, HB5.out⟩
  | true =>
    obtain ⟨a, b, cc, d, hform⟩ := hf rfl
    have hz := hform.size
    have HA := Lib.hid (fun W hW => implText_of hform.wide (fun w => newVersion_call hform.wide w) W hW)
    have HVT := Lib.hid (fun W hW => implText_of hform.wide (fun w => newVersion_v hform.wide w) W hW)
    unfold vT at HVT
    have HST := Lib.hid (show ∀ W, TabsE W → Calls Tryd.prog 16 #[.string s] W fun e w' => e = .returned (.bool true) ∧ Below W.heap.size W w' from fun W hW => implStrict_yes s hz ⟨_, _, _, _, _, _, _, _, _, hform⟩ W hW)
    have hcat : (1 : Nat) + s.size ≤ 9223372036854775807 := by omega
    have hcat2 : ((⟨#[118]⟩ : ByteArray) ++ s).size ≤ 9223372036854775807 := by have := vT_size s; unfold vT at this; omega
    have heq := beq_self_l s
    clear hf hno c0 hform hz
    go_enter Tryd.func5, Tryd.ntmps5
    go_wp2_with fail
    refine HV.out.mono ?_
    rintro e w1 ⟨rfl, hb1⟩
    have HB1 := Lib.hid (hb1.alloc hb1.size (.cells #[.int .u64 n1, .int .u64 n2, .int .u64 n3, .string pre, .string mt] 24))
    clear hb1 HV
    go_upto_region 4 with fail
    generalize w1.alloc (.cells #[.int .u64 n1, .int .u64 n2, .int .u64 n3, .string pre, .string mt] 24) = w2 at *
    go_wp2_with fail
    refine (HA.out _ (HT.out.below HB1.out)).mono ?_
    rintro e w3 ⟨rfl, hb3⟩
    have HB3 := Lib.hid (HB1.out.trans (hb3.mono HB1.out.size))
    clear hb3 HA HB1
    go_wp2_with fail
    refine (HVT.out _ (HT.out.below HB3.out)).mono ?_
    rintro e w4 ⟨rfl, hb4⟩
    have HB4 := Lib.hid (HB3.out.trans (hb4.mono HB3.out.size))
    clear hb4 HVT HB3
    go_wp2_with fail
    refine (HST.out _ (HE.out.below HB4.out)).mono ?_
    rintro e w5 ⟨rfl, hb5⟩
    have HB5 := Lib.hid (HB4.out.trans (hb5.mono HB4.out.size))
    clear hb5 HST HB4
    go_wp2
    go_ret
    exact ⟨rfl, HB5.out⟩
end Go.Proofs.YtlhijjfbcgconaaDoor.P

