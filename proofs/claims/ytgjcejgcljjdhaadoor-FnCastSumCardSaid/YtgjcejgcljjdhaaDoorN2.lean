/- FnCastSum holds. -/
import Derived.Test.YtgjcejgcljjdhaaDoorN1
import Derived.Deep.Strs
set_option linter.unusedVariables false
set_option linter.unusedSimpArgs false
namespace Go.Proofs.YtgjcejgcljjdhaaDoor.P
open Go.RowKit Go.Proofs.YtgjcejgcljjdhaaDoorW.PrintWords Go.Proofs.YtgjcejgcljjdhaaDoorW.PrintLast Go.Proofs.YtgjcejgcljjdhaaDoorW.PrintMore

/-! ### sums -/
def In64 (n : Int) : Prop := -9223372036854775808 ≤ n ∧ n ≤ 9223372036854775807
theorem wrap64_range (n : Int) : In64 (wrap64 n) := by unfold In64 wrap64; omega
theorem fold_mod (l : List Int) : ∀ z : Int, ∃ k : Int, l.foldl (fun a b => wrap64 (a + b)) z = z + l.sum + 18446744073709551616 * k := by
  induction l with
  | nil => exact fun z => ⟨0, by simp⟩
  | cons b r ih =>
    intro z
    obtain ⟨k, hk⟩ := ih (wrap64 (z + b))
    refine ⟨k - (z + b + 9223372036854775808) / 18446744073709551616, ?_⟩
    rw [List.foldl_cons, hk, List.sum_cons]
    unfold wrap64
    omega
theorem fold_range (l : List Int) : ∀ z : Int, In64 z → In64 (l.foldl (fun a b => wrap64 (a + b)) z) := by
  induction l with
  | nil => exact fun z h => h
  | cons b r ih => exact fun z _ => ih _ (wrap64_range _)
theorem sum_less (n : Int) (l : List Int) : wrap64 (sum64 (n :: l) - n) = sum64 l := by
  obtain ⟨k1, h1⟩ := fold_mod (n :: l) 0
  obtain ⟨k2, h2⟩ := fold_mod l 0
  have h3 := fold_range l 0 (by unfold In64; omega)
  rw [List.sum_cons] at h1
  unfold sum64
  rw [h1]
  rw [h2] at h3 ⊢
  unfold In64 at h3
  unfold wrap64
  omega
theorem mul_two (n : Int) : mul64 [2] n = sum64 [n, n] := by
  show wrap64 (n * 2) = wrap64 (wrap64 (0 + n) + n)
  unfold wrap64
  omega
theorem max_ge (l : List Int) : ∀ z, z ≤ max64 l z ∧ max64 l z ∈ z :: l := by
  induction l with
  | nil => exact fun z => ⟨Int.le_refl _, by simp [max64]⟩
  | cons b r ih =>
    intro z
    have h := ih (if z < b then b else z)
    have e : max64 (b :: r) z = max64 r (if z < b then b else z) := rfl
    rw [e]
    by_cases hc : z < b
    · simp only [hc, if_true] at h ⊢
      exact ⟨by omega, by have := h.2; simp at this ⊢; exact .inr this⟩
    · simp only [hc, if_false] at h ⊢
      exact ⟨h.1, by have := h.2; simp at this ⊢; exact this.elim .inl (fun h => .inr (.inr h))⟩
theorem min_le (l : List Int) : ∀ z, min64 l z ≤ z ∧ min64 l z ∈ z :: l := by
  induction l with
  | nil => exact fun z => ⟨Int.le_refl _, by simp [min64]⟩
  | cons b r ih =>
    intro z
    have h := ih (if b < z then b else z)
    have e : min64 (b :: r) z = min64 r (if b < z then b else z) := rfl
    rw [e]
    by_cases hc : b < z
    · simp only [hc, if_true] at h ⊢
      exact ⟨by omega, by have := h.2; simp at this ⊢; exact .inr this⟩
    · simp only [hc, if_false] at h ⊢
      exact ⟨h.1, by have := h.2; simp at this ⊢; exact this.elim .inl (fun h => .inr (.inr h))⟩
/-! ### the closure -/
set_option maxHeartbeats 1600000 in
set_option maxRecDepth 100000 in
theorem among_call (x : Int) (L : List Int) (A : Option Addr) (c gb : Nat) (w : World) (hl : L.length ≤ 1000) (hq : w.cell? ⟨gb, 0, none⟩ = some (.slice A L.length c)) (hC : Kd.C (Kd.int .i64) w A L.length L) (hx : x ∈ L) :
    Calls Tryd.prog 11 #[.int .i64 x, .pointer (some ⟨gb, 0, none⟩)] w fun e w' => e = .returned (.bool true) ∧ Below w.heap.size w w' := by
  have HC := Lib.hid hC
  have HX := Lib.hid hx
  clear hC hx
  obtain ⟨N, hNN⟩ : ∃ N, N = L.length := ⟨_, rfl⟩
  have HN := Lib.hid hNN
  rw [← hNN] at hl hq
  clear hNN
  go_enter Tryd.func11, Tryd.ntmps11
  go_wp2
  go_loop [4] (fun i => ∃ k : Nat, i = .int .i64 k ∧ k ≤ N ∧ Hid (x ∈ L.drop k)) (fun i => N - (intOf i).toNat)
  case atStart => exact ⟨0, rfl, Nat.zero_le _, HX⟩
  case round =>
    obtain ⟨k, rfl, hk, hX⟩ := hrel
    by_cases ck : k < N
    · obtain ⟨ad, rfl, q0⟩ := Kd.at_int HC.out (k : Int) (by omega) (by rw [← HN.out]; omega)
      have q1 : w.cell? (ad.add k) = some (.int .i64 (rd L k)) := q0
      have hkl : k < L.length := by rw [← HN.out]; exact ck
      have HD := Lib.hid (show rd L k = x ∨ x ∈ L.drop (k + 1) by
        have h := hX.out
        rw [List.drop_eq_getElem_cons hkl] at h
        rcases List.mem_cons.1 h with h | h
        · exact .inl (by rw [h]; simp [rd, List.getD_eq_getElem?_getD, hkl])
        · exact .inr h)
      obtain ⟨y, hy⟩ : ∃ y, y = rd L k := ⟨_, rfl⟩
      rw [← hy] at HD q1
      clear hkl hX q0 hy
      by_cases hyx : y = x
      · subst hyx
        clear HD
        go_wp2
        go_ret
        exact ⟨rfl, Below.refl _ _⟩
      · have HD2 := Lib.hid (HD.out.resolve_left hyx)
        clear HD
        go_wp2
        go_round
        case rel => exact ⟨k + 1, by go_num, by omega, HD2⟩
        case measure => simp [intOf]; omega
    · exfalso
      have h := hX.out
      rw [List.drop_of_length_le (by rw [← HN.out]; omega)] at h
      cases h
set_option maxHeartbeats 1600000 in
set_option maxRecDepth 100000 in
theorem fnCastSum (n : Int) (l : List Int) (A : Option Addr) (c : Nat) (w : World) (hn : (Lit.int IntKind.i64 n).wf = true) (hw : ∀ y ∈ l, In64 y) (hA : Kd.C (Kd.int .i64) w A l.length l) (hc : l.length ≤ c) :
    Calls Tryd.prog 4 #[.int .i64 n, .slice A l.length c] w fun e w' => e = .returned (.bool true) ∧ Below w.heap.size w w' := by
  have HA := Lib.hid hA
  have HB := Lib.hid (Below.refl w.heap.size w)
  clear hw hA
  obtain ⟨N, hNN⟩ : ∃ N, N = l.length := ⟨_, rfl⟩
  have HN := Lib.hid hNN
  rw [← hNN] at hc ⊢
  clear hNN
  by_cases hk0 : 2147483647 < (N : Int)
  · go_enter Tryd.func4, Tryd.ntmps4
    go_wp2
    go_ret
    exact ⟨rfl, HB.out⟩
  by_cases hk1 : 20 < (N : Int)
  · go_enter Tryd.func4, Tryd.ntmps4
    go_wp2
    go_ret
    exact ⟨rfl, HB.out⟩
  have HL := Lib.hid (show l.length ≤ 20 by rw [← HN.out]; omega)
  have HB1 := Lib.hid (HB.out.alloc (Nat.le_refl _) (.cells #[.int .i64 n] 2))
  have HR1 := Lib.hid (show Kd.R (Kd.int .i64) 2 (w.alloc (.cells #[.int .i64 n] 2)) w.heap.size (fun _ => True) (.slice (some ⟨w.heap.size, 0, none⟩) 1 1) [n] from ⟨fun _ _ => trivial, OwnRow.lit (inner := [.int .i64 n]) w w.heap.size (Reps.snoc (Reps.none _ _) (show (Kd.int .i64).M _ _ _ n [.int .i64 n] from rfl) rfl) (Nat.le_refl _) (by show 1 ≤ _; decide)⟩)
  have HCC := Lib.hid (show Kd.C (Kd.int .i64) (w.alloc (.cells #[.int .i64 n] 2)) A N l by rw [HN.out]; exact Kd.C_below HA.out ((Below.refl _ _).alloc (Nat.le_refl _) _))
  have info_i64 : (Tryd.prog.info? 2).map (fun i => (i.zero, i.size, i.bytes)) = some (some (.int .i64 0), 1, 8) := by kernel_rfl
  go_enter Tryd.func4, Tryd.ntmps4
  go_wp2_with (at_builtin; refine Kd.R_append_rows (Kd.int .i64) (w0 := w) w.heap.size rfl _ _ 32 2 (.int .i64 0) 8 rfl Tryd.underlying32 info_i64 rfl (Nat.succ_pos 0) (by decide) (.slice (some ⟨w.heap.size, 0, none⟩) 1 1) [n] l A N c (fun _ => True) (fun _ => False) rfl rfl HR1.out HCC.out (fun _ _ h => h) (fun _ h => h.elim) (fun _ _ => trivial) HB1.out HB1.out.size (by simp; omega) ?_)
  intro v1 w2 h1 hb2 hg2 hat2
  obtain ⟨L, hL⟩ : ∃ L, L = n :: l := ⟨_, rfl⟩
  rw [← hL] at h1
  have HLL := Lib.hid hL
  obtain ⟨A5, c5, rfl, hle5, hC5⟩ := Kd.R_reads h1
  have HB2 := Lib.hid hb2
  have HC5 := Lib.hid hC5
  have HLN := Lib.hid (show L.length ≤ 1000 by rw [hL, List.length_cons]; have := HL.out; omega)
  have HS2 := Lib.hid hb2.size
  obtain ⟨M, hM⟩ : ∃ M, M = L.length := ⟨_, rfl⟩
  have HM := Lib.hid hM
  rw [← hM] at HC5
  have HMX := Lib.hid (fun (W : World) (hb : Below w.heap.size w W) => implMax n A c l W (Kd.C_below HA.out hb) (by have := HL.out; omega))
  have HMN := Lib.hid (fun (W : World) (hb : Below w.heap.size w W) => implMin n A c l W (Kd.C_below HA.out hb) (by have := HL.out; omega))
  have HAD := Lib.hid (fun (W : World) (hb : Below w.heap.size w W) => implAdd A c l W (Kd.C_below HA.out hb) (by have := HL.out; omega))
  rw [← HN.out] at HMX HMN HAD
  rw [← hM]
  clear h1 hb2 hg2 hat2 HR1 HB1 HCC hle5 hC5 hL hM hk0 hk1 info_i64
  have HBX := Lib.hid ((Below.refl w2.heap.size w2).alloc (Nat.le_refl _) (.cells #[.slice A5 M c5] 32))
  have HBB3 := Lib.hid (HB2.out.alloc HB2.out.size (.cells #[.slice A5 M c5] 32))
  have HQ3 := Lib.hid (show (w2.alloc (.cells #[.slice A5 M c5] 32)).cell? ⟨w2.heap.size, 0, none⟩ = some (.slice A5 M c5) by rw [blk_cell (heap_alloc_new w2 (.cells #[.slice A5 M c5] 32)) 0]; rfl)
  have HZ3 := Lib.hid (show w2.heap.size < (w2.alloc (.cells #[.slice A5 M c5] 32)).heap.size by simp)
  have HC3 := Lib.hid (Kd.C_below HC5.out HBX.out)
  clear HC5 HBX
  clear HB2 HS2
  have hmm : min64 l n ≤ max64 l n := by have := (max_ge l n).1; have := (min_le l n).1; omega
  have HMI := Lib.hid (show max64 l n ∈ L ∧ min64 l n ∈ L from by rw [HLL.out]; exact ⟨(max_ge l n).2, (min_le l n).2⟩)
  obtain ⟨mx, hmx⟩ : ∃ mx, mx = max64 l n := ⟨_, rfl⟩
  obtain ⟨mn, hmn⟩ : ∃ mn, mn = min64 l n := ⟨_, rfl⟩
  rw [← hmx, ← hmn] at hmm HMI
  rw [← hmx] at HMX
  rw [← hmn] at HMN
  clear hmx hmn
  go_wp2_with fail
  refine (HMX.out _ HBB3.out).mono ?_
  rintro e w4 ⟨rfl, hb4⟩
  have HBB4 := Lib.hid (HBB3.out.trans (hb4.mono HBB3.out.size))
  have HQ4 := Lib.hid ((hb4.cell HZ3.out).trans HQ3.out)
  have HZ4 := Lib.hid (Nat.lt_of_lt_of_le HZ3.out hb4.size)
  have HC4 := Lib.hid (Kd.C_below HC3.out hb4)
  have hq4 := HQ4.out
  clear hb4 HBB3 HQ3 HZ3 HC3 HMX
  go_wp2_with fail
  refine (HMN.out _ HBB4.out).mono ?_
  rintro e w5 ⟨rfl, hb5⟩
  have HBB5 := Lib.hid (HBB4.out.trans (hb5.mono HBB4.out.size))
  have HQ5 := Lib.hid ((hb5.cell HZ4.out).trans HQ4.out)
  have HZ5 := Lib.hid (Nat.lt_of_lt_of_le HZ4.out hb5.size)
  have HC5 := Lib.hid (Kd.C_below HC4.out hb5)
  have hq5 := HQ5.out
  clear hb5 HBB4 HQ4 HZ4 HC4 HMN hq4
  have HAL := Lib.hid (fun (W : World) (h : Kd.C (Kd.int .i64) W A5 M L) => implAdd A5 c5 L W (by rw [← HM.out]; exact h) (by have := HLN.out; omega))
  rw [← HM.out] at HAL
  go_wp2_with fail
  refine (HAL.out _ HC5.out).mono ?_
  rintro e w6 ⟨rfl, hb6⟩
  have HBB6 := Lib.hid (HBB5.out.trans (hb6.mono HBB5.out.size))
  have HQ6 := Lib.hid ((hb6.cell HZ5.out).trans HQ5.out)
  have HZ6 := Lib.hid (Nat.lt_of_lt_of_le HZ5.out hb6.size)
  have HC6 := Lib.hid (Kd.C_below HC5.out hb6)
  have hq6 := HQ6.out
  clear hb6 HBB5 HQ5 HZ5 HC5 HAL hq5
  go_wp2_with fail
  refine (impl_Sub.calls (sum64 L) n (sum64 l) _ (by rw [HLL.out]; exact congrArg some (sum_less n l))).mono ?_
  rintro e w7 ⟨rfl, hb7⟩
  have HBB7 := Lib.hid (HBB6.out.trans (hb7.mono HBB6.out.size))
  have HQ7 := Lib.hid ((hb7.cell HZ6.out).trans HQ6.out)
  have HZ7 := Lib.hid (Nat.lt_of_lt_of_le HZ6.out hb7.size)
  have HC7 := Lib.hid (Kd.C_below HC6.out hb7)
  have hq7 := HQ7.out
  clear hb7 HBB6 HQ6 HZ6 HC6  hq6
  go_wp2_with fail
  refine (HAD.out _ HBB7.out).mono ?_
  rintro e w8 ⟨rfl, hb8⟩
  have HBB8 := Lib.hid (HBB7.out.trans (hb8.mono HBB7.out.size))
  have HQ8 := Lib.hid ((hb8.cell HZ7.out).trans HQ7.out)
  have HZ8 := Lib.hid (Nat.lt_of_lt_of_le HZ7.out hb8.size)
  have HC8 := Lib.hid (Kd.C_below HC7.out hb8)
  have hq8 := HQ8.out
  clear hb8 HBB7 HQ7 HZ7 HC7  hq7
  have HAM := Lib.hid (among_call mx L A5 c5 w2.heap.size w8 HLN.out (by rw [← HM.out]; exact HQ8.out) (by rw [← HM.out]; exact HC8.out) HMI.out.1)
  go_wp2_with fail
  refine (HAM.out).mono ?_
  rintro e w9 ⟨rfl, hb9⟩
  have HBB9 := Lib.hid (HBB8.out.trans (hb9.mono HBB8.out.size))
  have HQ9 := Lib.hid ((hb9.cell HZ8.out).trans HQ8.out)
  have HZ9 := Lib.hid (Nat.lt_of_lt_of_le HZ8.out hb9.size)
  have HC9 := Lib.hid (Kd.C_below HC8.out hb9)
  have hq9 := HQ9.out
  clear hb9 HBB8 HQ8 HZ8 HC8 HAM hq8
  have HAM := Lib.hid (among_call mn L A5 c5 w2.heap.size w9 HLN.out (by rw [← HM.out]; exact HQ9.out) (by rw [← HM.out]; exact HC9.out) HMI.out.2)
  go_wp2_with fail
  refine (HAM.out).mono ?_
  rintro e w10 ⟨rfl, hb10⟩
  have HBB10 := Lib.hid (HBB9.out.trans (hb10.mono HBB9.out.size))
  have HQ10 := Lib.hid ((hb10.cell HZ9.out).trans HQ9.out)
  have HZ10 := Lib.hid (Nat.lt_of_lt_of_le HZ9.out hb10.size)
  have HC10 := Lib.hid (Kd.C_below HC9.out hb10)
  have hq10 := HQ10.out
  clear hb10 HBB9 HQ9 HZ9 HC9 HAM hq9
  have HK := Lib.hid (show Kd.C (Kd.int .i64) (w10.alloc (.cells #[.int .i64 (2)] 2)) (some ⟨w10.heap.size, 0, none⟩) 1 [2] from by
    obtain ⟨A', c', he, _, h⟩ := Kd.R_reads (d := Kd.int .i64) (e := 2) (base := w10.heap.size) (ok := fun _ => True) (xs := [2]) (v := .slice (some ⟨w10.heap.size, 0, none⟩) 1 1) (w := w10.alloc (.cells #[.int .i64 (2)] 2)) ⟨fun _ _ => trivial, OwnRow.lit (inner := [.int .i64 (2)]) w10 w10.heap.size (Reps.snoc (Reps.none _ _) (show (Kd.int .i64).M _ _ _ (2) [.int .i64 (2)] from rfl) rfl) (Nat.le_refl _) (by show 1 ≤ _; decide)⟩
    injection he with hA _ _
    subst hA
    exact h)
  have HL1 := Lib.hid (((Below.refl w10.heap.size w10).alloc (Nat.le_refl _) (.cells #[.int .i64 (2)] 2)))
  go_wp2_with fail
  refine (implMul n (some ⟨w10.heap.size, 0, none⟩) 1 [2] _ HK.out (by decide)).mono ?_
  rw [mul_two]
  rintro e w11 ⟨rfl, hb11⟩
  have HBB11 := Lib.hid (HBB10.out.trans ((HL1.out.trans (hb11.mono (by simp))).mono HBB10.out.size))
  clear hb11 HBB10 HL1 HK HQ10 HZ10 HC10 hq10
  have HK := Lib.hid (show Kd.C (Kd.int .i64) (w11.alloc (.cells #[.int .i64 (n), .int .i64 (n)] 2)) (some ⟨w11.heap.size, 0, none⟩) 2 [n, n] from by
    obtain ⟨A', c', he, _, h⟩ := Kd.R_reads (d := Kd.int .i64) (e := 2) (base := w11.heap.size) (ok := fun _ => True) (xs := [n, n]) (v := .slice (some ⟨w11.heap.size, 0, none⟩) 2 2) (w := w11.alloc (.cells #[.int .i64 (n), .int .i64 (n)] 2)) ⟨fun _ _ => trivial, OwnRow.lit (inner := [.int .i64 (n), .int .i64 (n)]) w11 w11.heap.size (Reps.snoc (Reps.snoc (Reps.none _ _) (show (Kd.int .i64).M _ _ _ (n) [.int .i64 (n)] from rfl) rfl) (show (Kd.int .i64).M _ _ _ (n) [.int .i64 (n)] from rfl) rfl) (Nat.le_refl _) (by show 2 ≤ _; decide)⟩
    injection he with hA _ _
    subst hA
    exact h)
  have HL1 := Lib.hid (((Below.refl w11.heap.size w11).alloc (Nat.le_refl _) (.cells #[.int .i64 (n), .int .i64 (n)] 2)))
  go_wp2_with fail
  refine (implAdd (some ⟨w11.heap.size, 0, none⟩) 2 [n, n] _ HK.out (by show 2 ≤ _; decide)).mono ?_
  rintro e w12 ⟨rfl, hb12⟩
  have HBB12 := Lib.hid (HBB11.out.trans ((HL1.out.trans (hb12.mono (by simp))).mono HBB11.out.size))
  clear hb12 HBB11 HL1 HK
  go_wp2
  go_ret
  exact ⟨rfl, HBB12.out⟩
/-! ### a slice of int64 from outside -/
theorem ints_C {w : World} {a : Addr} {len : Nat} {Y : Nat → Int} (hl : len ≤ 9223372036854775807) (h : ∀ i, i < len → w.cell? (a.add i) = some (.int .i64 (Y i))) : Kd.C (Kd.int .i64) w (some a) len ((List.range len).map Y) := by
  refine ⟨by simp, hl, fun _ => ⟨a, rfl, fun j p hj => ?_⟩⟩
  have hj2 : j < len := by
    have := (List.getElem?_eq_some_iff.1 hj).1
    simpa using this
  have hp : p = Y j := by
    simp [hj2] at hj
    exact hj.symm
  subst hp
  refine ⟨[.int .i64 (Y j)], rfl, rfl, fun i u hu => ?_⟩
  cases i with
  | zero =>
    simp at hu
    subst hu
    have := h j hj2
    simpa [Kd.int, Kd.scalar] using this
  | succ i => simp at hu
set_option maxRecDepth 100000
open Go.ChangeShapes Go.WideShapes Go.Deep
theorem open_ints {H : Type} {enc : TypeId × Value → H} {w : World} {spare : Nat → Bool} {held : Bool} {v : Value} {d : DataW H} {p : List MemPlace} {r : Reach} {b0 : Nat} (hval : Value.okWide Tryd.prog w r b0 32 v) (h : DataW.Trod enc Tryd.prog w 0 spare held 32 v d p) :
    ∃ (l : List Int) (A : Option Addr) (c : Nat), v = .slice A l.length c ∧ (∀ y ∈ l, In64 y) ∧ Kd.C (Kd.int .i64) w A l.length l ∧ l.length ≤ c := by
  have c2 : Tryd.prog.cellsOf 2 = 1 := by kernel_rfl
  obtain ⟨a, len, cap, rfl⟩ := okWide_slice Tryd.underlying32 hval
  obtain ⟨fuel, hf⟩ := h
  have hf2 : DataW.trod enc Tryd.prog w 0 spare held fuel 32 [.slice a len cap] = some (d, p) := hf
  rcases DataW.trod_slice Tryd.underlying32 hf2 with ⟨he, _⟩ | ⟨a, len, cap, elems, rest, n, rfl, he, -, hb, hl, hm, hlen, hel, -, -⟩
  · injection he with he _
    exact ⟨[], none, 0, he, (fun y hy => by cases hy), ⟨rfl, by simp, fun h => absurd h (by simp)⟩, Nat.le_refl _⟩
  · injection he with he _
    rw [c2] at hel
    have each : ∀ i, i < len → ∃ q : Int, w.cell? (a.add i) = some (.int .i64 q) ∧ In64 q := fun i hi => by
      have h1 := hel i hi
      rw [List.getElem?_eq_getElem (by omega)] at h1
      obtain ⟨cs', h2, h3⟩ := Option.bind_eq_some_iff.1 h1
      obtain ⟨q, hq, -, hw⟩ := DataW.trod_int Tryd.underlying2 h3
      subst hq
      rw [Nat.mul_one] at h2
      obtain ⟨_, h4, h5⟩ := World.cells?_some h2
      have h6 := h5 0 (by decide)
      refine ⟨q, (by rw [Addr.add_add] at h6; simpa using h6), ?_⟩
      unfold In64
      simp only [Lit.wf, IntKind.min, IntKind.max, IntKind.signed, IntKind.bits, Bool.and_eq_true, decide_eq_true_eq, if_true] at hw
      omega
    obtain ⟨q, hq⟩ := choose_lt each
    refine ⟨(List.range len).map q, some a, cap, by rw [he]; simp, fun y hy => ?_, by simpa using ints_C (by unfold maxLen at hm; omega) (fun i hi => (hq i hi).1), by simpa using hl⟩
    obtain ⟨i, hi, rfl⟩ := List.mem_map.1 hy
    exact (hq i (List.mem_range.1 hi)).2
end Go.Proofs.YtgjcejgcljjdhaaDoor.P
