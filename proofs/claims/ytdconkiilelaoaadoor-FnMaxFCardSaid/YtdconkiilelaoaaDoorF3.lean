/- FnMaxF holds. -/
import Derived.Test.YtdconkiilelaoaaDoorF2
import Derived.BigQuiet
import Derived.Deep.QuietTactic
import Derived.Deep.Strs
set_option linter.unusedVariables false
set_option linter.unusedSimpArgs false
namespace Go.Proofs.YtdconkiilelaoaaDoor.P
open Go.RowKit Go.Proofs.YtdconkiilelaoaaDoorW.PrintWords Go.Proofs.YtdconkiilelaoaaDoorW.PrintLast Go.Proofs.YtdconkiilelaoaaDoorW.PrintMore

theorem forder_dec (a b : Nat) : ∃ q : Bool, (FloatKind.f64.format.order a b == some Ordering.eq) = q := ⟨_, rfl⟩
set_option maxHeartbeats 1600000 in
set_option maxRecDepth 100000 in
theorem fnMaxF (a : Nat) (l : List Nat) (A : Option Addr) (c : Nat) (w : World) (hA : Kd.C Kd.flt w A l.length l) (hc : l.length ≤ c) :
    Calls Tryd.prog 4 #[.float .f64 a, .slice A l.length c] w fun e w' => e = .returned (.bool true) ∧ Below w.heap.size w w' := by
  have HA := Lib.hid hA
  have HB := Lib.hid (Below.refl w.heap.size w)
  have HNA := Lib.hid (fun x W => isNaN_call x W)
  have HIN := Lib.hid (fun x => isInf_call x)
  clear hA
  obtain ⟨N, hNN⟩ : ∃ N, N = l.length := ⟨_, rfl⟩
  have HN := Lib.hid hNN
  rw [← hNN] at hc ⊢
  clear hNN
  by_cases hk0 : 2147483647 < (N : Int)
  · go_enter Tryd.func4, Tryd.ntmps4
    go_wp2
    go_ret
    exact ⟨rfl, HB.out⟩
  by_cases hk1 : 50 < (N : Int)
  · go_enter Tryd.func4, Tryd.ntmps4
    go_wp2
    go_ret
    exact ⟨rfl, HB.out⟩
  have HL := Lib.hid (show l.length ≤ 1000000 by rw [← HN.out]; omega)
  have hN50 : N ≤ 50 := by omega
  go_enter Tryd.func4, Tryd.ntmps4
  go_wp2
  go_loopw [5, 6, 7] (fun x y i wr => ∃ k : Nat, x = .float .f64 (maxf64 (l.take k) a) ∧ y = .float .f64 (minf64 (l.take k) a) ∧ i = .int .i64 k ∧ k ≤ N ∧ Hid (Below w.heap.size w wr) ∧ Hid (∀ y ∈ l.take k, NoNaN y)) (fun _ _ i _ => N - (intOf i).toNat)
  case atStart => exact ⟨0, rfl, rfl, rfl, Nat.zero_le _, HB, Lib.hid (fun y hy => by simp at hy)⟩
  case round =>
    obtain ⟨k, rfl, rfl, rfl, hk, hW, hX⟩ := hrel
    by_cases ck : k < N
    · obtain ⟨ad, rfl, q0⟩ := Kd.at_flt (Kd.C_below HA.out hW.out) (k : Int) (by omega) (by rw [← HN.out]; omega)
      have hkl : k < l.length := by rw [← HN.out]; exact ck
      have q1 : wr.cell? (ad.add k) = some (.float .f64 (l.getD k 0)) := by rw [← rdf_eq l k hkl]; exact q0
      have HT := Lib.hid (take_rdf l k hkl)
      have HM := Lib.hid (show maxf64 (l.take (k + 1)) a = pk false .gt (maxf64 (l.take k) a) (l.getD k 0) by rw [HT.out, maxf64_snoc])
      have HM2 := Lib.hid (show minf64 (l.take (k + 1)) a = pk true .lt (minf64 (l.take k) a) (l.getD k 0) by rw [HT.out, minf64_snoc])
      have HX2 := Lib.hid (show NoNaN (l.getD k 0) → ∀ y ∈ l.take (k + 1), NoNaN y from fun q y hy => by
        rw [HT.out] at hy
        rcases List.mem_append.1 hy with hy | hy
        · exact hX.out y hy
        · rw [List.mem_singleton.1 hy]; exact q)
      obtain ⟨x, hx⟩ : ∃ x, x = l.getD k 0 := ⟨_, rfl⟩
      obtain ⟨m1, hm1⟩ : ∃ m, m = maxf64 (l.take k) a := ⟨_, rfl⟩
      obtain ⟨m2, hm2⟩ : ∃ m, m = minf64 (l.take k) a := ⟨_, rfl⟩
      rw [← hm1, ← hx] at HM
      rw [← hm2, ← hx] at HM2
      rw [← hx] at q1 HX2
      rw [← hm1, ← hm2]
      clear hx hm1 hm2 q0 hkl HT hX
      have hb1 : (0 : Int) ≤ (k : Int) := by omega
      have hb2 : (k : Int) < (N : Int) := by omega
      obtain ⟨bi, hbi⟩ := HIN.out x
      have HBI := Lib.hid hbi
      clear hbi
      go_wp2
      go_quiet (first | (go_at_call 12; refine Calls.quiet_of_same ((mathMax_call _ _ _).mono fun _ _ ⟨h1, h2⟩ => ⟨h1, h2.symm⟩)) | (go_at_call 13; refine Calls.quiet_of_same ((mathMin_call _ _ _).mono fun _ _ ⟨h1, h2⟩ => ⟨h1, h2.symm⟩)))
      have HW2 := Lib.hid (pw_below_drewN hW.out nq)
      have q2 : (wr.drewN nq).cell? (ad.add k) = some (.float .f64 x) := q1
      generalize wr.drewN nq = w2 at *
      clear q1 hW
      by_cases hq : FloatKind.f64.format.order x x = some Ordering.eq
      · have HQ := Lib.hid (HX2.out (NoNaN.of hq))
        clear HX2
        have hz1 : (!(FloatKind.f64.format.order x x == some Ordering.eq)) = false := by rw [hq]; rfl
        clear hq
        go_wp2_with fail
        refine (HNA.out _ _).mono ?_
        rw [hz1]
        rintro e _ ⟨rfl, rfl⟩
        go_wp2_with fail
        refine (HBI.out _).mono ?_
        rintro e _ ⟨rfl, rfl⟩
        cases bi with
        | true =>
          go_wp2
          go_ret
          exact ⟨rfl, HW2.out⟩
        | false =>
          cases hz : (FloatKind.f64.format.order x 0 == some Ordering.eq) with
          | true =>
            go_wp2
            go_ret
            exact ⟨rfl, HW2.out⟩
          | false =>
            go_wp2
            go_roundw
            case rel => exact ⟨k + 1, by rw [HM.out], by rw [HM2.out], by go_num, by omega, HW2, HQ⟩
            case measure => simp [intOf]; omega
      · have hz1 : (!(FloatKind.f64.format.order x x == some Ordering.eq)) = true := by
          cases hz : (FloatKind.f64.format.order x x == some Ordering.eq) with
          | false => rfl
          | true => exact absurd (eq_of_beq hz) hq
        clear hq
        go_wp2_with fail
        refine (HNA.out _ _).mono ?_
        rw [hz1]
        rintro e _ ⟨rfl, rfl⟩
        go_wp2
        go_ret
        exact ⟨rfl, HW2.out⟩
    · have hkn : k = N := by omega
      subst hkn
      have hall : l.take k = l := by rw [HN.out, List.take_length]
      rw [hall] at hX ⊢
      clear hall
      obtain ⟨bi, hbi⟩ := HIN.out a
      have HBI := Lib.hid hbi
      clear hbi
      by_cases hq : FloatKind.f64.format.order a a = some Ordering.eq
      · have e1 := (maxf64_no l a (NoNaN.of hq) hX.out).eq
        have e2 := (minf64_no l a (NoNaN.of hq) hX.out).eq
        have hz1 : (!(FloatKind.f64.format.order a a == some Ordering.eq)) = false := by rw [hq]; rfl
        have HMX := Lib.hid (fun W (hb : Below w.heap.size w W) => implMaxF a A c l W (Kd.C_below HA.out hb) HL.out)
        have HMN := Lib.hid (fun W (hb : Below w.heap.size w W) => implMinF a A c l W (Kd.C_below HA.out hb) HL.out)
        rw [← HN.out] at HMX HMN
        generalize maxf64 l a = M1 at *
        generalize minf64 l a = M2 at *
        clear hq hX
        go_wp2_with fail
        refine (HNA.out _ _).mono ?_
        rw [hz1]
        rintro e _ ⟨rfl, rfl⟩
        go_wp2_with fail
        refine (HBI.out _).mono ?_
        rintro e _ ⟨rfl, rfl⟩
        cases bi with
        | true =>
          go_wp2
          go_ret
          exact ⟨rfl, hW.out⟩
        | false =>
          cases hz : (FloatKind.f64.format.order a 0 == some Ordering.eq) with
          | true =>
            go_wp2
            go_ret
            exact ⟨rfl, hW.out⟩
          | false =>
            go_wp2_with fail
            refine (HMX.out _ hW.out).mono ?_
            rintro e w4 ⟨rfl, hb4⟩
            have HB4 := Lib.hid (hW.out.trans (hb4.mono hW.out.size))
            clear hb4
            go_wp2_with fail
            refine (HMN.out _ HB4.out).mono ?_
            rintro e w5 ⟨rfl, hb5⟩
            have HB5 := Lib.hid (HB4.out.trans (hb5.mono HB4.out.size))
            clear hb5
            go_wp2
            go_ret
            exact ⟨rfl, HB5.out⟩
      · have hz1 : (!(FloatKind.f64.format.order a a == some Ordering.eq)) = true := by
          cases hz : (FloatKind.f64.format.order a a == some Ordering.eq) with
          | false => rfl
          | true => exact absurd (eq_of_beq hz) hq
        clear hq hX
        go_wp2_with fail
        refine (HNA.out _ _).mono ?_
        rw [hz1]
        rintro e _ ⟨rfl, rfl⟩
        go_wp2
        go_ret
        exact ⟨rfl, hW.out⟩
/-! ### a slice of floats from outside -/
theorem floats_C {w : World} {a : Addr} {len : Nat} {Y : Nat → Nat} (hl : len ≤ 9223372036854775807) (h : ∀ i, i < len → w.cell? (a.add i) = some (.float .f64 (Y i))) : Kd.C Kd.flt w (some a) len ((List.range len).map Y) := by
  refine ⟨by simp, hl, fun _ => ⟨a, rfl, fun j p hj => ?_⟩⟩
  have hj2 : j < len := by
    have := (List.getElem?_eq_some_iff.1 hj).1
    simpa using this
  have hp : p = Y j := by
    simp [hj2] at hj
    exact hj.symm
  subst hp
  refine ⟨[.float .f64 (Y j)], rfl, rfl, fun i u hu => ?_⟩
  cases i with
  | zero =>
    simp at hu
    subst hu
    have := h j hj2
    simpa [Kd.flt, Kd.scalar] using this
  | succ i => simp at hu
set_option maxRecDepth 100000
open Go.ChangeShapes Go.WideShapes Go.Deep
theorem trod_float {H : Type} {enc : TypeId × Value → H} {P : Program} {w : World} {base : Nat} {spare : Nat → Bool} {held : Bool} {t : TypeId} {k : FloatKind} {cs : List Value} {fuel : Nat} {x : DataW H × List MemPlace} (ht : P.underlying t = some (.float k)) (h : DataW.trod enc P w base spare held fuel t cs = some x) :
    ∃ b, cs = [.float k b] := by
  cases fuel with
  | zero => simp [DataW.trod] at h
  | succ n =>
    unfold DataW.trod at h
    rw [ht] at h
    split at h <;> simp_all
theorem open_floats {H : Type} {enc : TypeId × Value → H} {w : World} {spare : Nat → Bool} {held : Bool} {v : Value} {d : DataW H} {p : List MemPlace} {r : Reach} {b0 : Nat} (hval : Value.okWide Tryd.prog w r b0 26 v) (h : DataW.Trod enc Tryd.prog w 0 spare held 26 v d p) :
    ∃ (l : List Nat) (A : Option Addr) (c : Nat), v = .slice A l.length c ∧ Kd.C Kd.flt w A l.length l ∧ l.length ≤ c := by
  have c2 : Tryd.prog.cellsOf 22 = 1 := by kernel_rfl
  obtain ⟨a, len, cap, rfl⟩ := okWide_slice Tryd.underlying26 hval
  obtain ⟨fuel, hf⟩ := h
  have hf2 : DataW.trod enc Tryd.prog w 0 spare held fuel 26 [.slice a len cap] = some (d, p) := hf
  rcases DataW.trod_slice Tryd.underlying26 hf2 with ⟨he, _⟩ | ⟨a, len, cap, elems, rest, n, rfl, he, -, hb, hl, hm, hlen, hel, -, -⟩
  · injection he with he _
    exact ⟨[], none, 0, he, ⟨rfl, by simp, fun h => absurd h (by simp)⟩, Nat.le_refl _⟩
  · injection he with he _
    rw [c2] at hel
    have each : ∀ i, i < len → ∃ q : Nat, w.cell? (a.add i) = some (.float .f64 q) := fun i hi => by
      have h1 := hel i hi
      rw [List.getElem?_eq_getElem (by omega)] at h1
      obtain ⟨cs', h2, h3⟩ := Option.bind_eq_some_iff.1 h1
      obtain ⟨q, hq⟩ := trod_float Tryd.underlying22 h3
      subst hq
      rw [Nat.mul_one] at h2
      obtain ⟨_, h4, h5⟩ := World.cells?_some h2
      have h6 := h5 0 (by decide)
      exact ⟨q, (by rw [Addr.add_add] at h6; simpa using h6)⟩
    obtain ⟨q, hq⟩ := choose_lt each
    exact ⟨(List.range len).map q, some a, cap, by rw [he]; simp, by simpa using floats_C (by unfold maxLen at hm; omega) (fun i hi => hq i hi), by simpa using hl⟩
end Go.Proofs.YtdconkiilelaoaaDoor.P
