/- What weigh and right answer, in plain Lean: they end, and what is right has its shape. -/
import Derived.Test.YtffkinonnkbcpaaG8
import Derived.Test.YtffkinonnkbcpaaG6
import Derived.Laws.BitsLemmas
import Derived.Test.YtffkinonnkbcpaaPx1
import Derived.Test.YtffkinonnkbcpaaPx2
set_option linter.unusedVariables false
set_option linter.unusedSimpArgs false
namespace Go.Proofs.Ytffkinonnkbcpaa.P
open Go.RowKit Go.Proofs.YtffkinonnkbcpaaW.PrintWords Go.Proofs.YtffkinonnkbcpaaW.PrintLast Go.Proofs.YtffkinonnkbcpaaW.PrintMore

/-- From some fuel on the answer is there, the same, and p. -/
def Tot {α : Type} (f : Nat → Option α) (p : α → Prop) : Prop := ∃ k r, (∀ j, k ≤ j → f j = some r) ∧ p r
theorem Tot.succ {α : Type} {G F : Nat → Option α} {p : α → Prop} (hF : Tot F p) (h : ∀ k, G (k + 1) = F k) : Tot G p := by
  obtain ⟨k, r, hk, hp⟩ := hF
  exact ⟨k + 1, r, fun j hj => by
    obtain ⟨i, rfl⟩ : ∃ i, j = i + 1 := ⟨j - 1, by omega⟩
    rw [h]
    exact hk i (by omega), hp⟩
theorem Tot.ret {α : Type} {r : α} {p : α → Prop} (h : p r) : Tot (fun _ => some r) p := ⟨0, r, fun _ _ => rfl, h⟩
theorem Tot.bind {α β : Type} {F : Nat → Option α} {G : Nat → α → Option β} {p : α → Prop} {q : β → Prop} (hF : Tot F p) (hG : ∀ r, p r → Tot (fun k => G k r) q) : Tot (fun k => (F k).bind fun r => G k r) q := by
  obtain ⟨k, r, hk, hp⟩ := hF
  obtain ⟨m, s, hm, hq⟩ := hG r hp
  refine ⟨max k m, s, fun j hj => ?_, hq⟩
  simp only [hk j (by omega), Option.bind]
  exact hm j (by omega)
theorem Tot.ite {α : Type} {c : Prop} [Decidable c] {F G : Nat → Option α} {p : α → Prop} (h1 : c → Tot F p) (h2 : ¬ c → Tot G p) : Tot (fun k => if c then F k else G k) p := by
  by_cases h : c
  · simp only [if_pos h]; exact h1 h
  · simp only [if_neg h]; exact h2 h
theorem Tot.mono {α : Type} {F : Nat → Option α} {p q : α → Prop} (h : Tot F p) (hpq : ∀ r, p r → q r) : Tot F q := by
  obtain ⟨k, r, hk, hp⟩ := h
  exact ⟨k, r, hk, hpq r hp⟩

theorem Tot.step {α : Type} {G F : Nat → Option α} {p : α → Prop} (h : ∀ k, G (k + 1) = F k) (hF : Tot F p) : Tot G p := hF.succ h
theorem wrap_of {x : Int} (h1 : -9223372036854775808 ≤ x) (h2 : x ≤ 9223372036854775807) : wrap64 x = x := by
  unfold wrap64
  omega
/-- weigh ends. -/
theorem weigh_tot : ∀ (n : Nat) (x : S31) (left : Int), n ≤ 1000 → Tot (fun k => spec_weigh.f k x.f0 x.f1 x.f2 x.f3 x.f4 x.f5 left (n : Int)) (fun _ => True) := by
  intro n
  induction n with
  | zero =>
    intro x left _
    refine Tot.step (fun k => by rw [spec_weigh.f]) ?_
    refine Tot.ite (fun _ => ?_) (fun _ => Tot.ite (fun _ => ?_) (fun h => absurd rfl h))
    all_goals
      refine Tot.step (fun k => by rw [spec_weigh.j0]) ?_
      exact Tot.ite (fun _ => Tot.ret trivial) (fun h => absurd rfl h)
  | succ n ih =>
    intro x left hn
    have hw : wrap64 (((n + 1 : Nat) : Int) - 1) = (n : Int) := by rw [wrap_of (by omega) (by omega)]; omega
    have loop : ∀ (m : Nat) (left : Int) (i : Nat), x.f5.length - i = m → x.f5.length ≤ 9223372036854775807 → Tot (fun k => spec_weigh.l0 k left ((n + 1 : Nat) : Int) (i : Int) x.f0 x.f1 x.f2 x.f3 x.f4 x.f5) (fun _ => True) := by
      intro m
      induction m with
      | zero =>
        intro left i hm hl
        refine Tot.step (fun k => by rw [spec_weigh.l0]) ?_
        exact Tot.ite (fun h => absurd h (by omega)) (fun _ => Tot.ret trivial)
      | succ m ihm =>
        intro left i hm hl
        refine Tot.step (fun k => by rw [spec_weigh.l0]) ?_
        refine Tot.ite (fun _ => Tot.ite (fun _ => Tot.ite (fun _ => ?_) (fun h => absurd h (by omega))) (fun _ => Tot.ret trivial)) (fun h => absurd h (by omega))
        rw [hw]
        refine Tot.bind (ih _ left (by omega)) (fun r _ => ?_)
        rw [wrap_of (x := (i : Int) + 1) (by omega) (by omega)]
        exact ihm r (i + 1) (by omega) hl
    refine Tot.step (fun k => by rw [spec_weigh.f]) ?_
    refine Tot.ite (fun _ => ?_) (fun _ => Tot.ite (fun h => absurd h (by omega)) (fun _ => ?_))
    · refine Tot.step (fun k => by rw [spec_weigh.j0]) ?_
      exact Tot.ite (fun _ => Tot.ret trivial) (fun h => absurd rfl h)
    · refine Tot.step (fun k => by rw [spec_weigh.j0]) ?_
      refine Tot.ite (fun _ => Tot.ret trivial) (fun h => ?_)
      have hl : ¬ (x.f5.length : Int) > wrap64 (left - 1) := by simpa using h
      have hwl : wrap64 (left - 1) ≤ 9223372036854775807 := by unfold wrap64; omega
      exact loop _ _ 0 rfl (by omega)

theorem and_one (n : Int) : bits .and .i64 n 1 = n % 2 := by
  have h127 : (BitVec.ofInt 64 1).toNat = 2 ^ 1 - 1 := by decide
  have key : (BitVec.ofInt 64 n &&& BitVec.ofInt 64 1).toNat = (n % ((2 ^ 64 : Nat) : Int)).toNat % 2 ^ 1 := by
    rw [BitVec.toNat_and, BitVec.toNat_ofInt, h127, Nat.and_two_pow_sub_one_eq_mod]
  show IntKind.i64.wrap ((BitVec.ofInt 64 n &&& BitVec.ofInt 64 1).toNat : Nat) = n % 2
  rw [key, IntKind.wrap_i64]
  omega
/-- Two floats that a comparison takes for the same. -/
def RealEq (a b : Nat) : Prop := FloatKind.f64.format.order a b = some Ordering.eq ∨ (¬ FloatKind.f64.format.order a a = some Ordering.eq ∧ ¬ FloatKind.f64.format.order b b = some Ordering.eq)
theorem bare_of {a0 a1 : Int} {a2 : Nat} {a3 : ByteArray} {a4 : List ByteArray} {a5 : List S31} {b0 b1 : Int} {b2 : Nat} {b3 : ByteArray} {b4 : List ByteArray} {b5 : List S31} (h : spec_Bare.f a0 a1 a2 a3 a4 a5 b0 b1 b2 b3 b4 b5 = some true) : a0 = b0 ∧ a1 = b1 ∧ RealEq a2 b2 ∧ a3 = b3 := by
  have ht : ∀ c d : ByteArray, (c.toList == d.toList) = true → c = d := fun c d h => by
    rw [ByteArray.toList_eq, ByteArray.toList_eq] at h
    have h2 := eq_of_beq h
    cases c; cases d
    simp at h2
    cases h2
    rfl
  unfold spec_Bare.f at h
  split at h
  · split at h
    · split at h
      · rename_i h0 h1 h2
        exact ⟨h0, h1, .inl (eq_of_beq h2), ht _ _ (Option.some.inj h)⟩
      · split at h
        · split at h
          · rename_i h0 h1 _ h2 h3
            exact ⟨h0, h1, .inr ⟨by simpa using h2, by simpa using h3⟩, ht _ _ (Option.some.inj h)⟩
          · cases h
        · cases h
    · cases h
  · cases h
theorem bare_rev {x y : S31} (h0 : x.f0 = y.f0) (h1 : x.f1 = y.f1) (h2 : RealEq x.f2 y.f2) (h3 : x.f3 = y.f3) : bareB x y = true := by
  have h := bare_some x y
  unfold spec_Bare.f at h
  rw [if_pos h0, if_pos h1] at h
  rcases h2 with h2 | ⟨h2, h4⟩
  · rw [if_pos (by rw [h2]; rfl), h3] at h
    simpa using h.symm
  · by_cases h5 : (FloatKind.f64.format.order x.f2 y.f2 == some Ordering.eq) = true
    · rw [if_pos h5, h3] at h
      simpa using h.symm
    · rw [if_neg h5, if_pos (by simpa using h2), if_pos (by simpa using h4), h3] at h
      simpa using h.symm
/-- A right value, at most n deep. -/
def rightN : Nat → S31 → Prop
  | 0, _ => False
  | n + 1, x => 0 ≤ x.f0 ∧ x.f0 ≤ 7 ∧ x.f5.length ≤ 300 ∧ x.f3.size ≤ 300 ∧ (∀ k ∈ x.f4, k.size ≤ 300) ∧ (∀ i, i < x.f5.length → rightN n (x.f5.getD i z31)) ∧
    (x.f0 = 7 → x.f4.length = x.f5.length ∧ Ascend x.f4) ∧ (x.f0 ≠ 7 → x.f4 = []) ∧ (x.f0 ≠ 6 → x.f0 ≠ 7 → x.f5 = []) ∧ (x.f0 ≠ 5 → x.f3 = ⟨#[]⟩) ∧ (x.f0 ≠ 1 → x.f0 ≠ 2 → x.f0 ≠ 3 → x.f1 = 0) ∧ (x.f0 = 1 → x.f1 = 0 ∨ x.f1 = 1) ∧ (x.f0 ≠ 4 → RealEq x.f2 0)
/-- What the loop of right shows of an element. -/
def EltOk (n : Nat) (x : S31) (j : Nat) : Prop := rightN n (rd_T31 x.f5 (j : Int)) ∧ (x.f0 = 7 → (rdOf ByteArray.empty x.f4 (j : Int)).size ≤ 300 ∧ (0 < j → Op.bytesLess (rdOf ByteArray.empty x.f4 ((j - 1 : Nat) : Int)).toList (rdOf ByteArray.empty x.f4 (j : Int)).toList = true))
theorem right_loop {n : Nat} (hn : n ≤ 1000) (ih : ∀ x : S31, Tot (fun k => spec_right.f k x.f0 x.f1 x.f2 x.f3 x.f4 x.f5 (n : Int)) (fun r => r = true → rightN n x)) (x : S31) (h7 : x.f0 = 7 → x.f4.length = x.f5.length) (hl : x.f5.length ≤ 300) :
    ∀ m i, x.f5.length - i = m → Tot (fun k => spec_right.l0 k ((n + 1 : Nat) : Int) (i : Int) x.f0 x.f1 x.f2 x.f3 x.f4 x.f5) (fun r => r = true → ∀ j, i ≤ j → j < x.f5.length → EltOk n x j) := by
  have hw : wrap64 (((n + 1 : Nat) : Int) - 1) = (n : Int) := by rw [wrap_of (by omega) (by omega)]; omega
  intro m
  induction m with
  | zero =>
    intro i hm
    refine Tot.step (fun k => by rw [spec_right.l0]) ?_
    exact Tot.ite (fun h => absurd h (by omega)) (fun _ => Tot.ret (fun _ j h1 h2 => absurd h2 (by omega)))
  | succ m ihm =>
    intro i hm
    have h6 : ∀ b : Bool, (b = false → EltOk n x i) → Tot (fun k => spec_right.j6 k ((n + 1 : Nat) : Int) (i : Int) b x.f0 x.f1 x.f2 x.f3 x.f4 x.f5) (fun r => r = true → ∀ j, i ≤ j → j < x.f5.length → EltOk n x j) := by
      intro b hb
      refine Tot.step (fun k => by rw [spec_right.j6]) ?_
      refine Tot.ite (fun _ => Tot.ret (fun h => by cases h)) (fun h => ?_)
      rw [wrap_of (x := (i : Int) + 1) (by omega) (by omega)]
      refine (ihm (i + 1) (by omega)).mono (fun r hr ht j h1 h2 => ?_)
      by_cases hji : j = i
      · subst hji
        exact hb (by simpa using h)
      · exact hr ht j (by omega) h2
    refine Tot.step (fun k => by rw [spec_right.l0]) ?_
    refine Tot.ite (fun _ => Tot.ite (fun _ => ?_) (fun h => absurd h (by omega))) (fun h => absurd h (by omega))
    rw [hw]
    refine Tot.bind (ih _) (fun r hr => ?_)
    refine Tot.ite (fun ht => ?_) (fun _ => h6 true (fun h => by cases h))
    refine Tot.ite (fun h0 => Tot.ite (fun h1 => ?_) (fun h => absurd h (by rw [h7 h0]; omega))) (fun h0 => h6 false (fun _ => ⟨hr ht, fun h => absurd h h0⟩))
    refine Tot.ite (fun _ => h6 true (fun h => by cases h)) (fun hs => Tot.ite (fun hp => ?_) (fun hp => h6 false (fun _ => ⟨hr ht, fun _ => ⟨by omega, fun h => absurd h (by omega)⟩⟩)))
    have hw1 : wrap64 ((i : Int) - 1) = ((i - 1 : Nat) : Int) := by rw [wrap_of (by omega) (by omega)]; omega
    rw [hw1]
    refine Tot.ite (fun _ => Tot.ite (fun _ => ?_) (fun h => absurd h (by omega))) (fun h => absurd h (by omega))
    exact h6 _ (fun hb => ⟨hr ht, fun _ => ⟨by omega, fun _ => by simpa using hb⟩⟩)
/-- From one key to the next they ascend: all do. -/
theorem ascend_of {ks : List ByteArray} (h : ∀ j, 0 < j → j < ks.length → Op.bytesLess (rdOf ByteArray.empty ks ((j - 1 : Nat) : Int)).toList (rdOf ByteArray.empty ks (j : Int)).toList = true) : Ascend ks := by
  have key : ∀ d i, i + d + 1 < ks.length → Op.bytesLess (rdOf ByteArray.empty ks (i : Int)).toList (rdOf ByteArray.empty ks ((i + d + 1 : Nat) : Int)).toList = true := by
    intro d
    induction d with
    | zero => intro i hi; exact h (i + 1) (by omega) hi
    | succ d ihd => intro i hi; exact less_trans (ihd i (by omega)) (h (i + (d + 1) + 1) (by omega) hi)
  unfold Ascend
  rw [List.pairwise_iff_getElem]
  intro i j hi hj hij
  have := key (j - i - 1) i (by omega)
  rw [show i + (j - i - 1) + 1 = j by omega, ByteArray.toList_eq, ByteArray.toList_eq] at this
  simpa [rdOf, hi, hj] using this
/-- What right shows behind its guards. -/
def TailOk (d : Nat) (x : S31) : Prop := (x.f0 = 7 → x.f4.length = x.f5.length) ∧ (x.f0 ≠ 7 → x.f4 = []) ∧ ∀ n, d = n + 1 → ∀ j, j < x.f5.length → EltOk n x j
theorem right_j4 {d : Nat} (hd : d ≤ 1000) (ih : ∀ n, d = n + 1 → ∀ x : S31, Tot (fun k => spec_right.f k x.f0 x.f1 x.f2 x.f3 x.f4 x.f5 (n : Int)) (fun r => r = true → rightN n x)) (x : S31) (hd0 : d ≠ 0) (hl : x.f5.length ≤ 300) (b : Bool) (hb : b = false → (x.f0 = 7 → x.f4.length = x.f5.length) ∧ (x.f0 ≠ 7 → x.f4 = [])) :
    Tot (fun k => spec_right.j4 k (d : Int) b x.f0 x.f1 x.f2 x.f3 x.f4 x.f5) (fun r => r = true → TailOk d x) := by
  obtain ⟨n, rfl⟩ : ∃ n, d = n + 1 := ⟨d - 1, by omega⟩
  refine Tot.step (fun k => by rw [spec_right.j4]) ?_
  refine Tot.ite (fun _ => Tot.ret (fun h => by cases h)) (fun h => ?_)
  have hbb := hb (by simpa using h)
  exact (right_loop (by omega) (ih n rfl) x hbb.1 hl _ 0 rfl).mono (fun r hr ht => ⟨hbb.1, hbb.2, fun m hm j hj => by
    have : m = n := by omega
    subst this
    exact hr ht j (Nat.zero_le _) hj⟩)
theorem right_j3 {d : Nat} (hd : d ≤ 1000) (ih : ∀ n, d = n + 1 → ∀ x : S31, Tot (fun k => spec_right.f k x.f0 x.f1 x.f2 x.f3 x.f4 x.f5 (n : Int)) (fun r => r = true → rightN n x)) (x : S31) (b : Bool) (p : Prop) (hb : b = false → d ≠ 0 ∧ x.f5.length ≤ 300 ∧ p) :
    Tot (fun k => spec_right.j3 k (d : Int) b x.f0 x.f1 x.f2 x.f3 x.f4 x.f5) (fun r => r = true → TailOk d x ∧ d ≠ 0 ∧ x.f5.length ≤ 300 ∧ p) := by
  refine Tot.step (fun k => by rw [spec_right.j3]) ?_
  refine Tot.ite (fun _ => Tot.ret (fun h => by cases h)) (fun h => ?_)
  have hbb := hb (by simpa using h)
  have hp : ∀ b, (b = false → (x.f0 = 7 → x.f4.length = x.f5.length) ∧ (x.f0 ≠ 7 → x.f4 = [])) → Tot (fun k => spec_right.j4 k (d : Int) b x.f0 x.f1 x.f2 x.f3 x.f4 x.f5) (fun r => r = true → TailOk d x ∧ d ≠ 0 ∧ x.f5.length ≤ 300 ∧ p) := fun b hb => (right_j4 hd ih x hbb.1 hbb.2.1 b hb).mono (fun r hr ht => ⟨hr ht, hbb⟩)
  refine Tot.ite (fun h0 => ?_) (fun h0 => ?_)
  · exact hp _ (fun h => ⟨fun _ => by simp at h; omega, fun h7 => absurd h0 h7⟩)
  · refine Tot.ite (fun _ => hp _ (fun h => by cases h)) (fun h1 => hp _ (fun _ => ⟨fun h => absurd h h0, fun _ => List.eq_nil_of_length_eq_zero (by omega)⟩))
/-- What right shows. -/
def HeadOk (x : S31) (i : Int) (r : Nat) (t : ByteArray) : Prop := x.f1 = i ∧ RealEq x.f2 r ∧ x.f3 = t ∧ x.f3.size ≤ 300 ∧ (x.f0 ≠ 6 → x.f0 ≠ 7 → x.f5 = [])
theorem right_j2 {d : Nat} (hd : d ≤ 1000) (ih : ∀ n, d = n + 1 → ∀ x : S31, Tot (fun k => spec_right.f k x.f0 x.f1 x.f2 x.f3 x.f4 x.f5 (n : Int)) (fun r => r = true → rightN n x)) (x : S31) (i : Int) (r : Nat) (t : ByteArray) :
    Tot (fun k => spec_right.j2 k (d : Int) x.f0 x.f1 x.f2 x.f3 x.f4 x.f5 x.f0 x.f1 x.f2 x.f3 x.f0 i r t) (fun b => b = true → TailOk d x ∧ d ≠ 0 ∧ x.f5.length ≤ 300 ∧ HeadOk x i r t) := by
  have hj := right_j3 hd ih x
  refine Tot.step (fun k => by rw [spec_right.j2]) ?_
  have hB : Tot (fun _ => spec_Bare.f x.f0 x.f1 x.f2 x.f3 ([] : List ByteArray) ([] : List S31) x.f0 i r t ([] : List ByteArray) ([] : List S31)) (fun b => b = true → x.f1 = i ∧ RealEq x.f2 r ∧ x.f3 = t) := by
    have h := bare_some (⟨x.f0, x.f1, x.f2, x.f3, [], []⟩ : S31) ⟨x.f0, i, r, t, [], []⟩
    refine ⟨0, _, fun _ _ => h, fun hb => ?_⟩
    rw [hb] at h
    exact (bare_of h).2
  refine Tot.bind hB (fun b hb => ?_)
  have h0 : ∀ p, Tot (fun k => spec_right.j3 k (d : Int) true x.f0 x.f1 x.f2 x.f3 x.f4 x.f5) (fun b => b = true → TailOk d x ∧ d ≠ 0 ∧ x.f5.length ≤ 300 ∧ p) := fun p => hj true p (fun h => by cases h)
  refine Tot.ite (fun ht => ?_) (fun _ => h0 _)
  have hbb := hb ht
  refine Tot.ite (fun _ => h0 _) (fun hs => Tot.ite (fun _ => h0 _) (fun _ => ?_))
  have h1 : (x.f0 ≠ 6 → x.f0 ≠ 7 → x.f5 = []) → x.f5.length ≤ 300 → Tot (fun k => spec_right.j3 k (d : Int) ((d : Int) == 0) x.f0 x.f1 x.f2 x.f3 x.f4 x.f5) (fun b => b = true → TailOk d x ∧ d ≠ 0 ∧ x.f5.length ≤ 300 ∧ HeadOk x i r t) := fun h h2 => hj _ _ (fun hd0 => ⟨(fun h => by rw [h] at hd0; cases hd0), h2, hbb.1, hbb.2.1, hbb.2.2, by omega, h⟩)
  refine Tot.ite (fun h6 => Tot.ite (fun _ => h0 _) (fun hl => h1 (fun h => absurd h6 h) (by omega))) (fun h6 => Tot.ite (fun h7 => Tot.ite (fun _ => h0 _) (fun hl => h1 (fun _ h => absurd h7 h) (by omega))) (fun h7 => Tot.ite (fun _ => h0 _) (fun hl => Tot.ite (fun _ => h0 _) (fun hl2 => h1 (fun _ _ => List.eq_nil_of_length_eq_zero (by omega)) (by omega)))))
theorem right_mk {d : Nat} {x : S31} {i : Int} {r : Nat} {t : ByteArray} (hT : TailOk d x) (hd0 : d ≠ 0) (hl : x.f5.length ≤ 300) (hH : HeadOk x i r t) (h0 : 0 ≤ x.f0) (h7 : x.f0 ≤ 7) (hi : x.f0 ≠ 1 → x.f0 ≠ 2 → x.f0 ≠ 3 → i = 0) (hi1 : x.f0 = 1 → i = x.f1 % 2) (ht : x.f0 ≠ 5 → t = ⟨#[]⟩) (hr : x.f0 ≠ 4 → r = 0) : rightN d x := by
  obtain ⟨n, rfl⟩ : ∃ n, d = n + 1 := ⟨d - 1, by omega⟩
  obtain ⟨hT7, hT0, hT⟩ := hT
  obtain ⟨hx1, hx2, hx3, hx4, hx5⟩ := hH
  have hT := hT n rfl
  refine ⟨h0, h7, hl, hx4, ?_, fun i hi => by simpa [rd_T31] using (hT i hi).1, fun h => ⟨hT7 h, ascend_of (fun j h1 h2 => ((hT j (by have := hT7 h; omega)).2 h).2 h1)⟩, hT0, hx5, fun h => by rw [hx3, ht h], fun h1 h2 h3 => by rw [hx1, hi h1 h2 h3], fun h => by have := hi1 h; omega, fun h => by rw [← hr h]; exact hx2⟩
  intro k hk
  by_cases h : x.f0 = 7
  · obtain ⟨j, hj, rfl⟩ := List.getElem_of_mem hk
    have := ((hT j (by have := hT7 h; omega)).2 h).1
    simpa [rdOf, hj] using this
  · rw [hT0 h] at hk; cases hk
theorem right_j1 {d : Nat} (hd : d ≤ 1000) (ih : ∀ n, d = n + 1 → ∀ x : S31, Tot (fun k => spec_right.f k x.f0 x.f1 x.f2 x.f3 x.f4 x.f5 (n : Int)) (fun r => r = true → rightN n x)) (x : S31) (b : Bool) (hb : b = true → x.f0 = 2 ∨ x.f0 = 3) (hn : x.f0 ≠ 1) :
    Tot (fun k => spec_right.j1 k (d : Int) x.f0 b x.f0 x.f1 x.f2 x.f3 x.f4 x.f5 x.f0 x.f1 x.f2 x.f3 x.f0 0 0 (⟨#[]⟩ : ByteArray)) (fun r => r = true → rightN d x) := by
  refine Tot.step (fun k => by rw [spec_right.j1]) ?_
  refine Tot.ite (fun h => ?_) (fun _ => Tot.ite (fun h => ?_) (fun _ => Tot.ite (fun h => ?_) (fun _ => Tot.ret (fun h => by cases h))))
  · have h2 := hb h
    exact (right_j2 hd ih x x.f1 0 ⟨#[]⟩).mono (fun r hr ht => right_mk (hr ht).1 (hr ht).2.1 (hr ht).2.2.1 (hr ht).2.2.2 (by omega) (by omega) (fun h1 h2 h3 => by omega) (fun h => absurd h hn) (fun _ => rfl) (fun _ => rfl))
  · exact (right_j2 hd ih x 0 x.f2 ⟨#[]⟩).mono (fun r hr ht => right_mk (hr ht).1 (hr ht).2.1 (hr ht).2.2.1 (hr ht).2.2.2 (by omega) (by omega) (fun h1 h2 h3 => rfl) (fun h => absurd h hn) (fun _ => rfl) (fun h1 => absurd h h1))
  · exact (right_j2 hd ih x 0 0 x.f3).mono (fun r hr ht => right_mk (hr ht).1 (hr ht).2.1 (hr ht).2.2.1 (hr ht).2.2.2 (by omega) (by omega) (fun h1 h2 h3 => rfl) (fun h => absurd h hn) (fun h1 => absurd h h1) (fun h1 => rfl))
theorem right_j0 {d : Nat} (hd : d ≤ 1000) (ih : ∀ n, d = n + 1 → ∀ x : S31, Tot (fun k => spec_right.f k x.f0 x.f1 x.f2 x.f3 x.f4 x.f5 (n : Int)) (fun r => r = true → rightN n x)) (x : S31) (b : Bool) (hb : b = true → x.f0 = 0 ∨ x.f0 = 6 ∨ x.f0 = 7) :
    Tot (fun k => spec_right.j0 k (d : Int) x.f0 b x.f0 x.f1 x.f2 x.f3 x.f4 x.f5 x.f0 x.f1 x.f2 x.f3 x.f0 0 0 (⟨#[]⟩ : ByteArray)) (fun r => r = true → rightN d x) := by
  refine Tot.step (fun k => by rw [spec_right.j0]) ?_
  refine Tot.ite (fun h => ?_) (fun _ => Tot.ite (fun h => ?_) (fun h1 => Tot.ite (fun h => ?_) (fun h => ?_)))
  · have h2 := hb h
    exact (right_j2 hd ih x 0 0 ⟨#[]⟩).mono (fun r hr ht => right_mk (hr ht).1 (hr ht).2.1 (hr ht).2.2.1 (hr ht).2.2.2 (by omega) (by omega) (fun h1 h2 h3 => rfl) (fun h => by omega) (fun _ => rfl) (fun _ => rfl))
  · exact (right_j2 hd ih x _ 0 ⟨#[]⟩).mono (fun r hr ht => right_mk (hr ht).1 (hr ht).2.1 (hr ht).2.2.1 (hr ht).2.2.2 (by omega) (by omega) (fun h1 h2 h3 => absurd h h1) (fun _ => and_one _) (fun _ => rfl) (fun h1 => rfl))
  · exact right_j1 hd ih x _ (fun h => .inl (eq_of_beq h)) h1
  · exact right_j1 hd ih x _ (fun h => .inr (eq_of_beq h)) h1
theorem right_main {d : Nat} (hd : d ≤ 1000) (ih : ∀ n, d = n + 1 → ∀ x : S31, Tot (fun k => spec_right.f k x.f0 x.f1 x.f2 x.f3 x.f4 x.f5 (n : Int)) (fun r => r = true → rightN n x)) (x : S31) : Tot (fun k => spec_right.f k x.f0 x.f1 x.f2 x.f3 x.f4 x.f5 (d : Int)) (fun r => r = true → rightN d x) := by
  refine Tot.step (fun k => by rw [spec_right.f]) ?_
  exact Tot.ite (fun h => right_j0 hd ih x _ (fun h => .inl (eq_of_beq h))) (fun _ => Tot.ite (fun h => right_j0 hd ih x _ (fun h => .inr (.inl (eq_of_beq h)))) (fun _ => right_j0 hd ih x _ (fun h => .inr (.inr (eq_of_beq h)))))
/-- right ends; what it takes for right has its shape. -/
theorem right_tot : ∀ (d : Nat) (x : S31), d ≤ 1000 → Tot (fun k => spec_right.f k x.f0 x.f1 x.f2 x.f3 x.f4 x.f5 (d : Int)) (fun r => r = true → rightN d x)
  | 0, x, hd => right_main hd (fun n h => by cases h) x
  | d + 1, x, hd => right_main hd (fun n h x => by
      have : n = d := by omega
      subst this
      exact right_tot n x (by omega)) x
/-- Every whole number in it is one of 64 bits. -/
inductive Whole64 : S31 → Prop
  | mk (x : S31) : -9223372036854775808 ≤ x.f1 → x.f1 ≤ 9223372036854775807 → (∀ y ∈ x.f5, Whole64 y) → Whole64 x
theorem right_fits : ∀ {n : Nat} {x : S31}, rightN n x → Whole64 x → fitsN n x
  | 0, _, h, _ => h.elim
  | n + 1, x, ⟨h0, h1, h2, h3, h4, h5, h6, h7, h8, h9, h10, h11, _⟩, .mk _ w1 w2 w3 => ⟨h0, h1, h2, h3, h4, fun i hi => right_fits (h5 i hi) (w3 _ (by rw [List.getD_eq_getElem?_getD, List.getElem?_eq_getElem hi]; exact List.getElem_mem hi)), h6, h7, h8, h9, h10, h11, w1, w2⟩
theorem real_refl (a : Nat) : RealEq a a := by
  by_cases h : FloatKind.f64.format.order a a = some Ordering.eq
  · exact .inl h
  · exact .inr ⟨h, h⟩
theorem order_symm {a b : Nat} (h : FloatKind.f64.format.order a b = some Ordering.eq) : FloatKind.f64.format.order b a = some Ordering.eq := by
  unfold Ieee.Format.order at *
  generalize FloatKind.f64.format.read a = x at *
  generalize FloatKind.f64.format.read b = y at *
  cases x <;> cases y <;> simp only [Ieee.Datum.order, Option.some.injEq, reduceCtorEq] at h ⊢
  · rename_i s m i t n j
    rw [Int.min_comm j i]
    rw [show (compare (Ieee.signed t n (j - min i j).toNat) (Ieee.signed s m (i - min i j).toNat)) = (compare (Ieee.signed s m (i - min i j).toNat) (Ieee.signed t n (j - min i j).toNat)).swap from (Std.OrientedCmp.eq_swap), h]
    rfl
  · split at h <;> cases h
  · split at h <;> cases h
  · rw [Nat.compare_eq_eq] at h ⊢; exact h.symm
theorem real_symm {a b : Nat} (h : RealEq a b) : RealEq b a := h.elim (fun h => .inl (order_symm h)) (fun h => .inr ⟨h.2, h.1⟩)
/-- The value as it comes back is right, too. -/
theorem fits_norm : ∀ {n : Nat} {x : S31}, fitsN n x → fitsN n (normN n x)
  | 0, _, h => h.elim
  | n + 1, x, ⟨h0, h1, h2, h3, h4, h5, h6, h7, h8, h9, h10, h11, w1, w2⟩ => by
    refine ⟨h0, h1, by simpa [normN] using h2, h3, h4, fun i hi => ?_, fun h => ⟨by simpa [normN] using (h6 h).1, (h6 h).2⟩, h7, fun ha hb => by simp [normN, h8 ha hb], h9, h10, h11, w1, w2⟩
    have hi2 : i < x.f5.length := by simpa [normN] using hi
    have := fits_norm (h5 i hi2)
    simpa [normN, hi2] using this
theorem same_norm : ∀ {n : Nat} {x : S31}, rightN n x → SameP n (normN n x) x
  | 0, _, h => h.elim
  | n + 1, x, ⟨h0, h1, h2, h3, h4, h5, h6, h7, h8, h9, h10, h11, h12⟩ => by
    refine ⟨bare_rev rfl rfl ?_ rfl, rfl, by simp [normN], fun j _ => rfl, fun j hj => ?_⟩
    · show RealEq (if x.f0 = 4 then x.f2 else 0) x.f2
      by_cases h : x.f0 = 4
      · rw [if_pos h]; exact real_refl _
      · rw [if_neg h]; exact real_symm (h12 h)
    · have hj2 : j < x.f5.length := by simpa [normN] using hj
      have := same_norm (h5 j hj2)
      simpa [normN, rd_T31, hj2] using this
theorem sameList_norm {n : Nat} {l : List S31} (h : ∀ i, i < l.length → rightN n (l.getD i z31)) : SameListP n (l.map (normN n)) l := by
  refine ⟨by simp, fun j hj => ?_⟩
  have hj2 : j < l.length := by simpa using hj
  have := same_norm (h j hj2)
  simpa [rd_T31, hj2] using this
end Go.Proofs.Ytffkinonnkbcpaa.P
