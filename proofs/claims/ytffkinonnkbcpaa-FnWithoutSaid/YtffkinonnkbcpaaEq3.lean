/- zzEqual: what it must answer, and values without elements. -/
import Derived.Test.YtffkinonnkbcpaaG9
import Derived.Test.YtffkinonnkbcpaaEq2
set_option linter.unusedVariables false
set_option linter.unusedSimpArgs false
namespace Go.Proofs.Ytffkinonnkbcpaa.P
open Go.RowKit Go.Proofs.YtffkinonnkbcpaaW.PrintWords Go.Proofs.YtffkinonnkbcpaaW.PrintLast Go.Proofs.YtffkinonnkbcpaaW.PrintMore

theorem signed_zero (s : Bool) (k : Nat) : Ieee.signed s 0 k = 0 := by unfold Ieee.signed; cases s <;> simp
theorem signed_of {s : Bool} {m k : Nat} (h : Ieee.signed s m k = 0) : m = 0 := by
  unfold Ieee.signed at h
  cases s <;> simp at h <;> omega
theorem read_zero : ∃ i, FloatKind.f64.format.read 0 = .number false 0 i := ⟨_, by rfl⟩
theorem zero_read {a : Nat} (h : FloatKind.f64.format.order a 0 = some Ordering.eq) : ∃ s i, FloatKind.f64.format.read a = .number s 0 i := by
  obtain ⟨i0, h0⟩ := read_zero
  unfold Ieee.Format.order at h
  rw [h0] at h
  cases hd : FloatKind.f64.format.read a with
  | nan s t => rw [hd] at h; cases h
  | infinity s => rw [hd] at h; cases s <;> cases h
  | number s m i =>
    rw [hd] at h
    simp only [Ieee.Datum.order, Option.some.injEq] at h
    rw [signed_zero] at h
    have h2 := signed_of (Int.compare_eq_eq.1 h)
    exact ⟨s, i, by rw [h2]⟩
theorem order_zero {a b : Nat} (ha : FloatKind.f64.format.order a 0 = some Ordering.eq) (hb : FloatKind.f64.format.order b 0 = some Ordering.eq) : FloatKind.f64.format.order a b = some Ordering.eq := by
  obtain ⟨s, i, h1⟩ := zero_read ha
  obtain ⟨t, j, h2⟩ := zero_read hb
  unfold Ieee.Format.order
  rw [h1, h2]
  simp [Ieee.Datum.order, signed_zero]
theorem order00 : FloatKind.f64.format.order 0 0 = some Ordering.eq := by
  obtain ⟨i, h⟩ := read_zero
  unfold Ieee.Format.order
  rw [h]
  simp [Ieee.Datum.order, signed_zero]
theorem real_zero {a b : Nat} (ha : RealEq a 0) (hb : RealEq b 0) : RealEq a b := by
  have f : ∀ c, RealEq c 0 → FloatKind.f64.format.order c 0 = some Ordering.eq := fun c h => h.elim id (fun h => absurd order00 h.2)
  exact .inl (order_zero (f a ha) (f b hb))
/-- A real number in a value is no NaN. -/
def finN : Nat → S31 → Prop
  | 0, _ => True
  | n + 1, x => (x.f0 = 4 → FloatKind.f64.format.order x.f2 x.f2 = some Ordering.eq) ∧ ∀ i, i < x.f5.length → finN n (x.f5.getD i z31)
theorem bare_iff (y x : S31) : bareB y x = true ↔ y.f0 = x.f0 ∧ y.f1 = x.f1 ∧ RealEq y.f2 x.f2 ∧ y.f3 = x.f3 := by
  constructor
  · intro h
    have h2 := bare_some y x
    rw [h] at h2
    exact bare_of h2
  · rintro ⟨h0, h1, h2, h3⟩
    exact bare_rev h0 h1 h2 h3
theorem kind_ne {n : Nat} {x y : S31} (h : x.f0 ≠ y.f0) : ¬ SameP (n + 1) y x := fun h1 => h ((bare_iff y x).1 h1.1).1.symm
theorem rd_get (l : List S31) (j : Nat) : rd_T31 l (j : Int) = l.getD j z31 := by simp [rd_T31]
/-- Two values of one kind that have no elements. -/
theorem scal_iff {n : Nat} {x y : S31} (hx : rightN (n + 1) x) (hy : rightN (n + 1) y) (hk : y.f0 = x.f0) (h6 : x.f0 ≠ 6) (h7 : x.f0 ≠ 7) : SameP (n + 1) y x ↔ y.f1 = x.f1 ∧ (x.f0 = 4 → RealEq y.f2 x.f2) ∧ y.f3 = x.f3 := by
  obtain ⟨-, -, -, -, -, -, -, a7, a8, a9, a10, a11, a12⟩ := hx
  obtain ⟨-, -, -, -, -, -, -, b7, b8, b9, b10, b11, b12⟩ := hy
  have ex4 := a7 h7
  have ex5 := a8 h6 h7
  have ey4 := b7 (by rw [hk]; exact h7)
  have ey5 := b8 (by rw [hk]; exact h6) (by rw [hk]; exact h7)
  constructor
  · intro h
    obtain ⟨-, h1, h2, h3⟩ := (bare_iff y x).1 h.1
    exact ⟨h1, fun _ => h2, h3⟩
  · rintro ⟨h1, h2, h3⟩
    refine ⟨(bare_iff y x).2 ⟨hk, h1, ?_, h3⟩, by rw [ex4, ey4], by rw [ex5, ey5], fun j hj => (by rw [ey4] at hj; cases hj), fun j hj => (by rw [ey5] at hj; cases hj)⟩
    by_cases h4 : x.f0 = 4
    · exact h2 h4
    · exact real_zero (b12 (by rw [hk]; exact h4)) (a12 h4)
/-- Two lists. -/
theorem list_iff {n : Nat} {x y : S31} (hx : rightN (n + 1) x) (hy : rightN (n + 1) y) (hkx : x.f0 = 6) (hky : y.f0 = 6) : SameP (n + 1) y x ↔ x.f5.length = y.f5.length ∧ ∀ j, j < x.f5.length → SameP n (y.f5.getD j z31) (x.f5.getD j z31) := by
  obtain ⟨-, -, -, -, -, -, -, a7, a8, a9, a10, a11, a12⟩ := hx
  obtain ⟨-, -, -, -, -, -, -, b7, b8, b9, b10, b11, b12⟩ := hy
  have ex4 := a7 (by rw [hkx]; decide)
  have ey4 := b7 (by rw [hky]; decide)
  constructor
  · rintro ⟨-, -, h1, -, h2⟩
    refine ⟨h1.symm, fun j hj => ?_⟩
    have := h2 j (by omega)
    rwa [rd_get, rd_get] at this
  · rintro ⟨h1, h2⟩
    refine ⟨(bare_iff y x).2 ⟨by rw [hkx, hky], by rw [a10 (by rw [hkx]; decide) (by rw [hkx]; decide) (by rw [hkx]; decide), b10 (by rw [hky]; decide) (by rw [hky]; decide) (by rw [hky]; decide)], real_zero (b12 (by rw [hky]; decide)) (a12 (by rw [hkx]; decide)), by rw [a9 (by rw [hkx]; decide), b9 (by rw [hky]; decide)]⟩, by rw [ex4, ey4], h1.symm, fun j hj => (by rw [ey4] at hj; cases hj), fun j hj => ?_⟩
    rw [rd_get, rd_get]
    exact h2 j (by omega)
/-- Two dicts. -/
theorem dict_iff {n : Nat} {x y : S31} (hx : rightN (n + 1) x) (hy : rightN (n + 1) y) (hkx : x.f0 = 7) (hky : y.f0 = 7) : SameP (n + 1) y x ↔ x.f4 = y.f4 ∧ ∀ j, j < x.f5.length → SameP n (y.f5.getD j z31) (x.f5.getD j z31) := by
  obtain ⟨-, -, -, -, -, -, a6, a7, a8, a9, a10, a11, a12⟩ := hx
  obtain ⟨-, -, -, -, -, -, b6, b7, b8, b9, b10, b11, b12⟩ := hy
  have lx := (a6 hkx).1
  have ly := (b6 hky).1
  constructor
  · rintro ⟨-, h0, h1, h3, h2⟩
    refine ⟨?_, fun j hj => ?_⟩
    · refine List.ext_getElem h0.symm (fun j j1 j2 => ?_)
      have := h3 j j2
      simp only [rdOf, Int.toNat_natCast, List.getD_eq_getElem?_getD, List.getElem?_eq_getElem j1, List.getElem?_eq_getElem j2, Option.getD_some] at this
      exact (toList_inj this).symm
    · have := h2 j (by omega)
      rwa [rd_get, rd_get] at this
  · rintro ⟨h1, h2⟩
    have hlen : x.f5.length = y.f5.length := by rw [← lx, ← ly, h1]
    refine ⟨(bare_iff y x).2 ⟨by rw [hkx, hky], by rw [a10 (by rw [hkx]; decide) (by rw [hkx]; decide) (by rw [hkx]; decide), b10 (by rw [hky]; decide) (by rw [hky]; decide) (by rw [hky]; decide)], real_zero (b12 (by rw [hky]; decide)) (a12 (by rw [hkx]; decide)), by rw [a9 (by rw [hkx]; decide), b9 (by rw [hky]; decide)]⟩, by rw [h1], hlen.symm, fun j hj => by rw [h1], fun j hj => ?_⟩
    rw [rd_get, rd_get]
    exact h2 j (by omega)
/-- What zzEqual must answer. -/
def EqOk (n : Nat) : Prop := ∀ (x y : S31) (v u : Value) (ok ok' : Nat → Prop) (w : World), rightN n x → rightN n y → finN n x → GoN n ok w x v → GoN n ok' w y u → Calls Try.prog 47 #[v, u] w (BoolPost (SameP n y x) w)
theorem post_of {p : Prop} {b : Bool} {v u : Value} {w : World} (h : Calls Try.prog 47 #[v, u] w fun e w' => e = .returned (.bool b) ∧ Below w.heap.size w w') (hb : b = true ↔ p) : Calls Try.prog 47 #[v, u] w (BoolPost p w) := by
  refine h.mono ?_
  rintro e w' ⟨rfl, hw⟩
  exact ⟨b, rfl, hb, hw⟩
theorem no_of {n : Nat} {x y : S31} (h : x.f0 ≠ y.f0) : (false = true ↔ SameP (n + 1) y x) := ⟨(fun h => by cases h), fun h1 => absurd h1 (kind_ne h)⟩
/-- Neither is a list or a dict. -/
theorem eq_scal {n : Nat} {x y : S31} {v u : Value} {ok ok' : Nat → Prop} {w : World} (hx : rightN (n + 1) x) (hy : rightN (n + 1) y) (hf : finN (n + 1) x) (hv : GoN (n + 1) ok w x v) (hu : GoN (n + 1) ok' w y u) (hx6 : x.f0 ≠ 6) (hx7 : x.f0 ≠ 7) (hy6 : y.f0 ≠ 6) (hy7 : y.f0 ≠ 7) : Calls Try.prog 47 #[v, u] w (BoolPost (SameP (n + 1) y x) w) := by
  have r10 := hx.2.2.2.2.2.2.2.2.2.2.1
  have r11 := hx.2.2.2.2.2.2.2.2.2.2.2.1
  have r9 := hx.2.2.2.2.2.2.2.2.2.1
  have s10 := hy.2.2.2.2.2.2.2.2.2.2.1
  have s11 := hy.2.2.2.2.2.2.2.2.2.2.2.1
  have s9 := hy.2.2.2.2.2.2.2.2.2.1
  have hff := hf.1
  rcases hv with ⟨h0, rfl⟩ | ⟨h0, rfl⟩ | ⟨h0, rfl⟩ | ⟨h0, rfl⟩ | ⟨h0, rfl⟩ | ⟨h0, rfl⟩ | ⟨h0, _⟩ | ⟨h0, _⟩
  rotate_right; · exact absurd h0 hx7
  rotate_right; · exact absurd h0 hx6
  all_goals
    rcases hu with ⟨k0, rfl⟩ | ⟨k0, rfl⟩ | ⟨k0, rfl⟩ | ⟨k0, rfl⟩ | ⟨k0, rfl⟩ | ⟨k0, rfl⟩ | ⟨k0, _⟩ | ⟨k0, _⟩
    rotate_right; · exact absurd k0 hy7
    rotate_right; · exact absurd k0 hy6
  · refine post_of (eq_ss (fun W => shl_0 W) (fun W => shm_0 W) (fun W => shl_0 W) (fun W => shm_0 W) (fun W => eqv_00 W) (fun W => eqg_00 W) w) ?_
    rw [scal_iff hx hy (by rw [h0, k0]) hx6 hx7]
    exact ⟨fun _ => ⟨by rw [r10 (by rw [h0]; decide) (by rw [h0]; decide) (by rw [h0]; decide), s10 (by rw [k0]; decide) (by rw [k0]; decide) (by rw [k0]; decide)], (fun h => by rw [h0] at h; cases h), by rw [r9 (by rw [h0]; decide), s9 (by rw [k0]; decide)]⟩, fun _ => rfl⟩
  · exact post_of (eq_ss (fun W => shl_0 W) (fun W => shm_0 W) (fun W => shl_1 _ W) (fun W => shm_1 _ W) (fun W => eqv_01 _ W) (fun W => eqg_01 _ W) w) (no_of (by rw [h0, k0]; decide))
  · exact post_of (eq_ss (fun W => shl_0 W) (fun W => shm_0 W) (fun W => shl_2 _ W) (fun W => shm_2 _ W) (fun W => eqv_02 _ W) (fun W => eqg_02 _ W) w) (no_of (by rw [h0, k0]; decide))
  · exact post_of (eq_ss (fun W => shl_0 W) (fun W => shm_0 W) (fun W => shl_3 _ W) (fun W => shm_3 _ W) (fun W => eqv_03 _ W) (fun W => eqg_03 _ W) w) (no_of (by rw [h0, k0]; decide))
  · exact post_of (eq_ss (fun W => shl_0 W) (fun W => shm_0 W) (fun W => shl_4 _ W) (fun W => shm_4 _ W) (fun W => eqv_04 _ W) (fun W => eqg_04 _ W) w) (no_of (by rw [h0, k0]; decide))
  · exact post_of (eq_ss (fun W => shl_0 W) (fun W => shm_0 W) (fun W => shl_5 _ W) (fun W => shm_5 _ W) (fun W => eqv_05 _ W) (fun W => eqg_05 _ W) w) (no_of (by rw [h0, k0]; decide))
  · exact post_of (eq_ss (fun W => shl_1 _ W) (fun W => shm_1 _ W) (fun W => shl_0 W) (fun W => shm_0 W) (fun W => eqv_10 _ W) (fun W => eqg_10 _ W) w) (no_of (by rw [h0, k0]; decide))
  · refine post_of (eq_ss (fun W => shl_1 _ W) (fun W => shm_1 _ W) (fun W => shl_1 _ W) (fun W => shm_1 _ W) (fun W => eqv_11 _ _ W) (fun W => eqg_11 _ _ W) w) ?_
    rw [scal_iff hx hy (by rw [h0, k0]) hx6 hx7]
    have e1 := r11 h0
    have e2 := s11 k0
    constructor
    · intro h
      refine ⟨?_, (fun h => by rw [h0] at h; cases h), by rw [r9 (by rw [h0]; decide), s9 (by rw [k0]; decide)]⟩
      rcases e1 with e1 | e1 <;> rcases e2 with e2 | e2 <;> rw [e1, e2] at h ⊢ <;> first | rfl | (exact absurd h (by decide))
    · rintro ⟨h, -, -⟩
      rw [h]
      simp
  · exact post_of (eq_ss (fun W => shl_1 _ W) (fun W => shm_1 _ W) (fun W => shl_2 _ W) (fun W => shm_2 _ W) (fun W => eqv_12 _ _ W) (fun W => eqg_12 _ _ W) w) (no_of (by rw [h0, k0]; decide))
  · exact post_of (eq_ss (fun W => shl_1 _ W) (fun W => shm_1 _ W) (fun W => shl_3 _ W) (fun W => shm_3 _ W) (fun W => eqv_13 _ _ W) (fun W => eqg_13 _ _ W) w) (no_of (by rw [h0, k0]; decide))
  · exact post_of (eq_ss (fun W => shl_1 _ W) (fun W => shm_1 _ W) (fun W => shl_4 _ W) (fun W => shm_4 _ W) (fun W => eqv_14 _ _ W) (fun W => eqg_14 _ _ W) w) (no_of (by rw [h0, k0]; decide))
  · exact post_of (eq_ss (fun W => shl_1 _ W) (fun W => shm_1 _ W) (fun W => shl_5 _ W) (fun W => shm_5 _ W) (fun W => eqv_15 _ _ W) (fun W => eqg_15 _ _ W) w) (no_of (by rw [h0, k0]; decide))
  · exact post_of (eq_ss (fun W => shl_2 _ W) (fun W => shm_2 _ W) (fun W => shl_0 W) (fun W => shm_0 W) (fun W => eqv_20 _ W) (fun W => eqg_20 _ W) w) (no_of (by rw [h0, k0]; decide))
  · exact post_of (eq_ss (fun W => shl_2 _ W) (fun W => shm_2 _ W) (fun W => shl_1 _ W) (fun W => shm_1 _ W) (fun W => eqv_21 _ _ W) (fun W => eqg_21 _ _ W) w) (no_of (by rw [h0, k0]; decide))
  · refine post_of (eq_ss (fun W => shl_2 _ W) (fun W => shm_2 _ W) (fun W => shl_2 _ W) (fun W => shm_2 _ W) (fun W => eqv_22 _ _ W) (fun W => eqg_22 _ _ W) w) ?_
    rw [scal_iff hx hy (by rw [h0, k0]) hx6 hx7]
    exact ⟨fun h => ⟨(eq_of_beq h).symm, (fun h => by rw [h0] at h; cases h), by rw [r9 (by rw [h0]; decide), s9 (by rw [k0]; decide)]⟩, fun h => beq_iff_eq.2 h.1.symm⟩
  · exact post_of (eq_ss (fun W => shl_2 _ W) (fun W => shm_2 _ W) (fun W => shl_3 _ W) (fun W => shm_3 _ W) (fun W => eqv_23 _ _ W) (fun W => eqg_23 _ _ W) w) (no_of (by rw [h0, k0]; decide))
  · exact post_of (eq_ss (fun W => shl_2 _ W) (fun W => shm_2 _ W) (fun W => shl_4 _ W) (fun W => shm_4 _ W) (fun W => eqv_24 _ _ W) (fun W => eqg_24 _ _ W) w) (no_of (by rw [h0, k0]; decide))
  · exact post_of (eq_ss (fun W => shl_2 _ W) (fun W => shm_2 _ W) (fun W => shl_5 _ W) (fun W => shm_5 _ W) (fun W => eqv_25 _ _ W) (fun W => eqg_25 _ _ W) w) (no_of (by rw [h0, k0]; decide))
  · exact post_of (eq_ss (fun W => shl_3 _ W) (fun W => shm_3 _ W) (fun W => shl_0 W) (fun W => shm_0 W) (fun W => eqv_30 _ W) (fun W => eqg_30 _ W) w) (no_of (by rw [h0, k0]; decide))
  · exact post_of (eq_ss (fun W => shl_3 _ W) (fun W => shm_3 _ W) (fun W => shl_1 _ W) (fun W => shm_1 _ W) (fun W => eqv_31 _ _ W) (fun W => eqg_31 _ _ W) w) (no_of (by rw [h0, k0]; decide))
  · exact post_of (eq_ss (fun W => shl_3 _ W) (fun W => shm_3 _ W) (fun W => shl_2 _ W) (fun W => shm_2 _ W) (fun W => eqv_32 _ _ W) (fun W => eqg_32 _ _ W) w) (no_of (by rw [h0, k0]; decide))
  · refine post_of (eq_ss (fun W => shl_3 _ W) (fun W => shm_3 _ W) (fun W => shl_3 _ W) (fun W => shm_3 _ W) (fun W => eqv_33 _ _ W) (fun W => eqg_33 _ _ W) w) ?_
    rw [scal_iff hx hy (by rw [h0, k0]) hx6 hx7]
    exact ⟨fun h => ⟨(eq_of_beq h).symm, (fun h => by rw [h0] at h; cases h), by rw [r9 (by rw [h0]; decide), s9 (by rw [k0]; decide)]⟩, fun h => beq_iff_eq.2 h.1.symm⟩
  · exact post_of (eq_ss (fun W => shl_3 _ W) (fun W => shm_3 _ W) (fun W => shl_4 _ W) (fun W => shm_4 _ W) (fun W => eqv_34 _ _ W) (fun W => eqg_34 _ _ W) w) (no_of (by rw [h0, k0]; decide))
  · exact post_of (eq_ss (fun W => shl_3 _ W) (fun W => shm_3 _ W) (fun W => shl_5 _ W) (fun W => shm_5 _ W) (fun W => eqv_35 _ _ W) (fun W => eqg_35 _ _ W) w) (no_of (by rw [h0, k0]; decide))
  · exact post_of (eq_ss (fun W => shl_4 _ W) (fun W => shm_4 _ W) (fun W => shl_0 W) (fun W => shm_0 W) (fun W => eqv_40 _ W) (fun W => eqg_40 _ W) w) (no_of (by rw [h0, k0]; decide))
  · exact post_of (eq_ss (fun W => shl_4 _ W) (fun W => shm_4 _ W) (fun W => shl_1 _ W) (fun W => shm_1 _ W) (fun W => eqv_41 _ _ W) (fun W => eqg_41 _ _ W) w) (no_of (by rw [h0, k0]; decide))
  · exact post_of (eq_ss (fun W => shl_4 _ W) (fun W => shm_4 _ W) (fun W => shl_2 _ W) (fun W => shm_2 _ W) (fun W => eqv_42 _ _ W) (fun W => eqg_42 _ _ W) w) (no_of (by rw [h0, k0]; decide))
  · exact post_of (eq_ss (fun W => shl_4 _ W) (fun W => shm_4 _ W) (fun W => shl_3 _ W) (fun W => shm_3 _ W) (fun W => eqv_43 _ _ W) (fun W => eqg_43 _ _ W) w) (no_of (by rw [h0, k0]; decide))
  · refine post_of (eq_ss (fun W => shl_4 _ W) (fun W => shm_4 _ W) (fun W => shl_4 _ W) (fun W => shm_4 _ W) (fun W => eqv_44 _ _ W) (fun W => eqg_44 _ _ W) w) ?_
    rw [scal_iff hx hy (by rw [h0, k0]) hx6 hx7]
    exact ⟨fun h => ⟨by rw [r10 (by rw [h0]; decide) (by rw [h0]; decide) (by rw [h0]; decide), s10 (by rw [k0]; decide) (by rw [k0]; decide) (by rw [k0]; decide)], fun _ => .inl (order_symm (eq_of_beq h)), by rw [r9 (by rw [h0]; decide), s9 (by rw [k0]; decide)]⟩, fun h => beq_iff_eq.2 ((h.2.1 h0).elim order_symm (fun q => absurd (hff h0) q.2))⟩
  · exact post_of (eq_ss (fun W => shl_4 _ W) (fun W => shm_4 _ W) (fun W => shl_5 _ W) (fun W => shm_5 _ W) (fun W => eqv_45 _ _ W) (fun W => eqg_45 _ _ W) w) (no_of (by rw [h0, k0]; decide))
  · exact post_of (eq_ss (fun W => shl_5 _ W) (fun W => shm_5 _ W) (fun W => shl_0 W) (fun W => shm_0 W) (fun W => eqv_50 _ W) (fun W => eqg_50 _ W) w) (no_of (by rw [h0, k0]; decide))
  · exact post_of (eq_ss (fun W => shl_5 _ W) (fun W => shm_5 _ W) (fun W => shl_1 _ W) (fun W => shm_1 _ W) (fun W => eqv_51 _ _ W) (fun W => eqg_51 _ _ W) w) (no_of (by rw [h0, k0]; decide))
  · exact post_of (eq_ss (fun W => shl_5 _ W) (fun W => shm_5 _ W) (fun W => shl_2 _ W) (fun W => shm_2 _ W) (fun W => eqv_52 _ _ W) (fun W => eqg_52 _ _ W) w) (no_of (by rw [h0, k0]; decide))
  · exact post_of (eq_ss (fun W => shl_5 _ W) (fun W => shm_5 _ W) (fun W => shl_3 _ W) (fun W => shm_3 _ W) (fun W => eqv_53 _ _ W) (fun W => eqg_53 _ _ W) w) (no_of (by rw [h0, k0]; decide))
  · exact post_of (eq_ss (fun W => shl_5 _ W) (fun W => shm_5 _ W) (fun W => shl_4 _ W) (fun W => shm_4 _ W) (fun W => eqv_54 _ _ W) (fun W => eqg_54 _ _ W) w) (no_of (by rw [h0, k0]; decide))
  · refine post_of (eq_ss (fun W => shl_5 _ W) (fun W => shm_5 _ W) (fun W => shl_5 _ W) (fun W => shm_5 _ W) (fun W => eqv_55 _ _ W) (fun W => eqg_55 _ _ W) w) ?_
    rw [scal_iff hx hy (by rw [h0, k0]) hx6 hx7]
    exact ⟨fun h => ⟨by rw [r10 (by rw [h0]; decide) (by rw [h0]; decide) (by rw [h0]; decide), s10 (by rw [k0]; decide) (by rw [k0]; decide) (by rw [k0]; decide)], (fun h => by rw [h0] at h; cases h), (ba_ext (congrArg Array.toList (eq_of_beq h))).symm⟩, fun h => by rw [h.2.2]; exact beq_self_eq_true _⟩
end Go.Proofs.Ytffkinonnkbcpaa.P
