/- Versions, plain: spec.number, spec.ParseVersion, and what form a version has. -/
import Derived.Test.YtlhijjfbcgconaaDoorZSv1
import Derived.IntWalk
set_option linter.unusedVariables false
set_option linter.unusedSimpArgs false
namespace Go.Proofs.YtlhijjfbcgconaaDoor.P
open Go.RowKit Go.Proofs.YtlhijjfbcgconaaDoorW.PrintWords Go.Proofs.YtlhijjfbcgconaaDoorW.PrintLast Go.Proofs.YtlhijjfbcgconaaDoorW.PrintMore

/-- What digits from a place on spell. -/
def dv (s : ByteArray) (x : Nat) : Nat → Int
  | 0 => 0
  | d + 1 => dv s x d * 10 + (bt s ((x + d : Nat) : Int) - 48)
theorem dv_ext {s : ByteArray} {a b : Nat} : ∀ {d x : Nat}, a + x + d ≤ b → dv (s.extract a b) x d = dv s (a + x) d
  | 0, _, _ => rfl
  | d + 1, x, h => by
    unfold dv
    rw [dv_ext (d := d) (by omega), bt_ext s a b (x + d) (by omega), show a + (x + d) = a + x + d by omega]
theorem dv_range {s : ByteArray} {x : Nat} : ∀ {d : Nat}, (∀ j, x ≤ j → j < x + d → isD (bt s (j : Int))) → 0 ≤ dv s x d ∧ dv s x d < 10 ^ d
  | 0, _ => ⟨Int.le_refl 0, by show (0 : Int) < 1; decide⟩
  | d + 1, h => by
    have ih := dv_range (s := s) (x := x) (d := d) (fun j h1 h2 => h j h1 (by omega))
    have h1 := h (x + d) (by omega) (by omega)
    unfold isD at h1
    unfold dv
    have h2 : (10 : Int) ^ (d + 1) = 10 ^ d * 10 := Int.pow_succ ..
    omega
theorem dv_nine {s : ByteArray} {x d : Nat} (hd : d ≤ 9) (h : ∀ j, x ≤ j → j < x + d → isD (bt s (j : Int))) : 0 ≤ dv s x d ∧ dv s x d < 1000000000 := by
  have h1 := dv_range h
  have h2 : (10 : Int) ^ d ≤ 10 ^ 9 := by
    have : (10 : Nat) ^ d ≤ 10 ^ 9 := Nat.pow_le_pow_right (by decide) hd
    exact_mod_cast this
  have h3 : (10 : Int) ^ 9 = 1000000000 := by decide
  omega
/-- A number at the head of a text. -/
def Num (p : ByteArray) (d : Nat) : Prop := 0 < d ∧ d ≤ 9 ∧ d ≤ p.size ∧ (∀ j, j < d → isD (bt p (j : Int))) ∧ (d = p.size ∨ ¬ isD (bt p (d : Int))) ∧ (d = 1 ∨ bt p 0 ≠ 48)
theorem number_l (p : ByteArray) (hp : p.size ≤ 100000) : ∀ n i : Nat, i + n = 9 → i ≤ p.size → (∀ j, j < i → isD (bt p (j : Int))) →
    ∃ (r : Int × ByteArray × Bool), Ev (fun k => spec_number.l0 k p (dv p 0 i) (i : Int)) r ∧ (r.2.2 = true → ∃ d, Num p d ∧ r.1 = dv p 0 d ∧ r.2.1 = p.extract d p.size) ∧ ((∃ d, Num p d) → r.2.2 = true) := by
  have hend : ∀ i : Nat, i ≤ 9 → i ≤ p.size → (∀ j, j < i → isD (bt p (j : Int))) → (i = p.size ∨ ¬ isD (bt p (i : Int))) → ∃ (r : Int × ByteArray × Bool), Ev (fun k => spec_number.j1 k p (dv p 0 i) (i : Int) false) r ∧ (r.2.2 = true → ∃ d, Num p d ∧ r.1 = dv p 0 d ∧ r.2.1 = p.extract d p.size) ∧ ((∃ d, Num p d) → r.2.2 = true) := by
    intro i h9 hi hd hstop
    have e1 : ((i : Int)).toNat = i := by omega
    have huniq : (∃ d, Num p d) → Num p i := by
      rintro ⟨d, hn⟩
      obtain ⟨g1, g2, g3, g4, g5, g6⟩ := id hn
      have : d = i := by
        rcases Nat.lt_trichotomy d i with c | c | c
        · rcases g5 with g5 | g5
          · omega
          · exact absurd (hd d c) g5
        · exact c
        · rcases hstop with q | q
          · omega
          · exact absurd (g4 i c) q
      rw [← this]
      exact hn
    by_cases c0 : i > 0
    · by_cases c1 : i = 1
      · refine ⟨(dv p 0 i, p.extract i p.size, true), Ev.step (fun k => by rw [spec_number.j1]) (Ev.neg (by decide) (Ev.pos (by omega) (Ev.pos (by omega) (Ev.pos (by omega) (Ev.pos (by omega) (by rw [e1]; exact Ev.ok _)))))), fun _ => ⟨i, ⟨c0, h9, hi, hd, hstop, .inl c1⟩, rfl, rfl⟩, fun _ => rfl⟩
      · refine ⟨(dv p 0 i, p.extract i p.size, bt p 0 != 48), Ev.step (fun k => by rw [spec_number.j1]) (Ev.neg (by decide) (Ev.pos (by omega) (Ev.pos (by omega) (Ev.pos (by omega) (Ev.neg (by omega) (Ev.pos (by omega) (by rw [e1]; exact Ev.ok _))))))), fun h => ⟨i, ⟨c0, h9, hi, hd, hstop, .inr (bne_iff_ne.1 h)⟩, rfl, rfl⟩, fun h => ?_⟩
        obtain ⟨_, _, _, _, _, h6⟩ := huniq h
        rcases h6 with h6 | h6
        · exact absurd h6 c1
        · exact bne_iff_ne.2 h6
    · refine ⟨(dv p 0 i, p.extract i p.size, false), Ev.step (fun k => by rw [spec_number.j1]) (Ev.neg (by decide) (Ev.pos (by omega) (Ev.pos (by omega) (Ev.neg (by omega) (by rw [e1]; exact Ev.ok _))))), (fun h => by cases h), fun h => ?_⟩
      have := (huniq h).1
      omega
  intro n
  induction n with
  | zero =>
    intro i hn hi hd
    by_cases c : i < p.size ∧ isD (bt p (i : Int))
    · refine ⟨(0, p, false), Ev.step (fun k => by rw [spec_number.l0]) (Ev.pos (by omega) (Ev.pos (by omega) (Ev.pos c.2.1 (Ev.step (fun k => by rw [spec_number.j1]) (Ev.pos (decide_eq_true c.2.2) (Ev.pos (by omega) (Ev.pos (by omega) (Ev.pos (by rw [w64_in (by omega) (by omega)]; omega) (Ev.ok _))))))))), (fun h => by cases h), fun h => ?_⟩
      obtain ⟨d, g1, g2, g3, g4, g5, g6⟩ := h
      rcases g5 with g5 | g5
      · omega
      · have : isD (bt p (d : Int)) := by
          rcases Nat.lt_or_ge d i with q | q
          · exact hd d q
          · obtain rfl : d = i := by omega
            exact c.2
        exact absurd this g5
    · have hstop : i = p.size ∨ ¬ isD (bt p (i : Int)) := by
        by_cases q : i = p.size
        · exact .inl q
        · exact .inr fun h => c ⟨by omega, h⟩
      obtain ⟨r, h1, h2⟩ := hend i (by omega) hi hd hstop
      refine ⟨r, Ev.step (fun k => by rw [spec_number.l0]) ?_, h2⟩
      by_cases q : i < p.size
      · refine Ev.pos (by omega) (Ev.pos (by omega) ?_)
        by_cases q2 : bt p (i : Int) ≥ 48
        · refine Ev.pos q2 ?_
          rw [decide_eq_false (fun h => c ⟨q, q2, h⟩)]
          exact h1
        · exact Ev.neg q2 h1
      · exact Ev.neg (by omega) h1
  | succ n ih =>
    intro i hn hi hd
    by_cases c : i < p.size ∧ isD (bt p (i : Int))
    · have hd2 : ∀ j, j < i + 1 → isD (bt p (j : Int)) := fun j hj => by
        rcases Nat.lt_or_ge j i with q | q
        · exact hd j q
        · obtain rfl : j = i := by omega
          exact c.2
      obtain ⟨r, h1, h2⟩ := ih (i + 1) (by omega) (by omega) hd2
      have e1 : wrap64 ((i : Int) + 1) = ((i + 1 : Nat) : Int) := by rw [w64_in (by omega) (by omega)]; omega
      have hr := dv_nine (s := p) (x := 0) (d := i) (by omega) (fun j _ hj => hd j (by omega))
      have hc := c.2
      unfold isD at hc
      have e2 : IntKind.u64.wrap (IntKind.u64.wrap (dv p 0 i * 10) + (bt p (i : Int) - 48) % 256) = dv p 0 (i + 1) := by
        have h64 := IntWalk.u64_in (dv p 0 i * 10) ⟨by omega, by omega⟩
        rw [h64, IntWalk.u64_in _ ⟨by omega, by omega⟩]
        show _ = dv p 0 i * 10 + (bt p ((0 + i : Nat) : Int) - 48)
        rw [Nat.zero_add]
        omega
      refine ⟨r, Ev.step (fun k => by rw [spec_number.l0]) (Ev.pos (by omega) (Ev.pos (by omega) (Ev.pos c.2.1 (Ev.step (fun k => by rw [spec_number.j1]) (Ev.pos (decide_eq_true c.2.2) (Ev.pos (by omega) (Ev.pos (by omega) (Ev.neg (by rw [e1]; omega) ?_)))))))), h2⟩
      rw [e2, e1]
      exact h1
    · have hstop : i = p.size ∨ ¬ isD (bt p (i : Int)) := by
        by_cases q : i = p.size
        · exact .inl q
        · exact .inr fun h => c ⟨by omega, h⟩
      obtain ⟨r, h1, h2⟩ := hend i (by omega) hi hd hstop
      refine ⟨r, Ev.step (fun k => by rw [spec_number.l0]) ?_, h2⟩
      by_cases q : i < p.size
      · refine Ev.pos (by omega) (Ev.pos (by omega) ?_)
        by_cases q2 : bt p (i : Int) ≥ 48
        · refine Ev.pos q2 ?_
          rw [decide_eq_false (fun h => c ⟨q, q2, h⟩)]
          exact h1
        · exact Ev.neg q2 h1
      · exact Ev.neg (by omega) h1
theorem number_ev (p : ByteArray) (hp : p.size ≤ 100000) : ∃ (r : Int × ByteArray × Bool), Ev (fun k => spec_number.f k p) r ∧ (r.2.2 = true → ∃ d, Num p d ∧ r.1 = dv p 0 d ∧ r.2.1 = p.extract d p.size) ∧ ((∃ d, Num p d) → r.2.2 = true) := by
  obtain ⟨r, h1, h2⟩ := number_l p hp 9 0 (by omega) (Nat.zero_le _) (fun j h => by omega)
  exact ⟨r, by unfold spec_number.f; exact h1, h2⟩
/-- A number within a text, from x to e. -/
def NumAt9 (s : ByteArray) (x e : Nat) : Prop := x < e ∧ e ≤ x + 9 ∧ e ≤ s.size ∧ (∀ j, x ≤ j → j < e → isD (bt s (j : Int))) ∧ (e = s.size ∨ ¬ isD (bt s (e : Int))) ∧ (e = x + 1 ∨ bt s (x : Int) ≠ 48)
theorem Num_at {s : ByteArray} {x y d : Nat} (hy : y ≤ s.size) (hend : y = s.size ∨ ¬ isD (bt s (y : Int))) (hx : x ≤ y) : Num (s.extract x y) d ↔ NumAt9 s x (x + d) ∧ x + d ≤ y := by
  have hz : (s.extract x y).size = y - x := ext_size _ _ _ hy
  have hz0 : x < y → bt (s.extract x y) 0 = bt s (x : Int) := fun h => by
    have := bt_ext s x y 0 (by omega)
    rw [show ((0 : Nat) : Int) = 0 from rfl] at this
    exact this
  constructor
  · rintro ⟨h1, h2, h3, h4, h5, h6⟩
    rw [hz] at h3 h5
    refine ⟨⟨by omega, by omega, by omega, fun j hj1 hj2 => ?_, ?_, ?_⟩, by omega⟩
    · have := h4 (j - x) (by omega)
      rw [bt_ext s x y (j - x) (by omega), show x + (j - x) = j by omega] at this
      exact this
    · rcases h5 with h5 | h5
      · have : x + d = y := by omega
        rw [this]
        exact hend
      · by_cases q : x + d = y
        · rw [q]; exact hend
        · rw [bt_ext s x y d (by omega)] at h5
          exact .inr h5
    · rcases h6 with h6 | h6
      · exact .inl (by omega)
      · rw [hz0 (by omega)] at h6
        exact .inr h6
  · rintro ⟨⟨h1, h2, h3, h4, h5, h6⟩, h7⟩
    refine ⟨by omega, by omega, by omega, fun j hj => ?_, ?_, ?_⟩
    · rw [bt_ext s x y j (by omega)]
      exact h4 (x + j) (by omega) (by omega)
    · rw [hz]
      by_cases q : x + d = y
      · exact .inl (by omega)
      · rcases h5 with h5 | h5
        · exact .inl (by omega)
        · rw [bt_ext s x y d (by omega)]
          exact .inr h5
    · rcases h6 with h6 | h6
      · exact .inl (by omega)
      · rw [hz0 (by omega)]
        exact .inr h6
/-- The form of a version: three numbers, then something behind a hyphen up to m, then something behind a plus sign. -/
structure Form9 (s : ByteArray) (a b c m : Nat) (n1 n2 n3 : Int) (pre meta_ : ByteArray) : Prop where
  size : s.size ≤ 100
  d1 : NumAt9 s 0 a
  p1 : bt s (a : Int) = 46
  q1 : a < s.size
  d2 : NumAt9 s (a + 1) b
  p2 : bt s (b : Int) = 46
  q2 : b < s.size
  d3 : NumAt9 s (b + 1) c
  cm : c ≤ m
  ms : m ≤ s.size
  hpre : (c = m ∧ pre = ⟨#[]⟩) ∨ (c < m ∧ bt s (c : Int) = 45 ∧ PF s true m (c + 1) ∧ pre = s.extract (c + 1) m)
  hmeta : (m = s.size ∧ meta_ = ⟨#[]⟩) ∨ (m < s.size ∧ bt s (m : Int) = 43 ∧ PF s false s.size (m + 1) ∧ meta_ = s.extract (m + 1) s.size)
  v1 : n1 = dv s 0 a
  v2 : n2 = dv s (a + 1) (b - (a + 1))
  v3 : n3 = dv s (b + 1) (c - (b + 1))
  noplus : ∀ j, j < m → bt s (j : Int) ≠ 43
def zeroV : Int × Int × Int × ByteArray × ByteArray × Bool := (0, 0, 0, ⟨#[]⟩, ⟨#[]⟩, false)
theorem j3_no (v1 v2 v3 : Int) (p0 mt x : ByteArray) : Ev (fun k => spec_ParseVersion.j3 k x true v1 v2 v3 p0 mt) zeroV := by
  refine Ev.step (fun k => by rw [spec_ParseVersion.j3]) ?_
  exact Ev.pos rfl (Ev.ok zeroV)
theorem j2_no (v1 v2 v3 : Int) (p0 mt x : ByteArray) : Ev (fun k => spec_ParseVersion.j2 k x true v1 v2 v3 p0 mt) zeroV := by
  refine Ev.step (fun k => by rw [spec_ParseVersion.j2]) ?_
  exact Ev.pos rfl (Ev.ok zeroV)
theorem bt_ext0 (s : ByteArray) (x y : Nat) (h : x < y) : bt (s.extract x y) 0 = bt s (x : Int) := by
  have := bt_ext s x y 0 (by omega)
  rw [show ((0 : Nat) : Int) = 0 from rfl] at this
  exact this
theorem ext_to (s : ByteArray) (x y d : Nat) (hy : y ≤ s.size) (hd : x + d ≤ y) : (s.extract x y).extract d (s.extract x y).size = s.extract (x + d) y := by
  rw [ext_size _ _ _ hy, ext_ext _ _ _ _ _ (by omega), show x + (y - x) = y by omega]
theorem j3_ev (s : ByteArray) (hs : s.size ≤ 100) (m b : Nat) (hm : m ≤ s.size) (hend : m = s.size ∨ ¬ isD (bt s (m : Int))) (hb : b < m) (v1 v2 v3 : Int) (p0 mt : ByteArray) :
    ∃ r : Int × Int × Int × ByteArray × ByteArray × Bool, Ev (fun k => spec_ParseVersion.j3 k (s.extract b m) false v1 v2 v3 p0 mt) r ∧ (r.2.2.2.2.2 = true → ∃ c pre, NumAt9 s (b + 1) c ∧ c ≤ m ∧ r = (v1, v2, dv s (b + 1) (c - (b + 1)), pre, mt, true) ∧ ((c = m ∧ pre = p0) ∨ (c < m ∧ bt s (c : Int) = 45 ∧ PF s true m (c + 1) ∧ pre = s.extract (c + 1) m))) := by
  have hz : (s.extract b m).size = m - b := ext_size _ _ _ hm
  obtain ⟨r, hr, h1, h2⟩ := number_ev (s.extract (b + 1) m) (by rw [ext_size _ _ _ hm]; omega)
  have hgo : ∀ q, Ev (fun k => (if r.2.2 = true then (if (r.2.1.size : Int) > 0 then (if 0 < (r.2.1.size : Int) then (if (bt r.2.1 0) = 45 then (if 1 ≤ (r.2.1.size : Int) then ((spec_parts.f k (r.2.1.extract 1 r.2.1.size) true).bind fun t113 => (if t113 = true then (some (v1, v2, r.1, r.2.1.extract 1 r.2.1.size, mt, true)) else (some (0, 0, 0, (⟨#[]⟩ : ByteArray), (⟨#[]⟩ : ByteArray), false)))) else (none)) else (some (0, 0, 0, (⟨#[]⟩ : ByteArray), (⟨#[]⟩ : ByteArray), false))) else (none)) else (some (v1, v2, r.1, p0, mt, true))) else (some (0, 0, 0, (⟨#[]⟩ : ByteArray), (⟨#[]⟩ : ByteArray), false)))) q → Ev (fun k => spec_ParseVersion.j3 k (s.extract b m) false v1 v2 v3 p0 mt) q := fun q hq => by
    refine Ev.step (fun k => by rw [spec_ParseVersion.j3]) (Ev.neg (by decide) (Ev.pos (by omega) ?_))
    rw [ext_to s b m 1 hm (by omega)]
    exact Ev.bind hr hq
  obtain ⟨n, rest, ok⟩ := r
  cases ok with
  | false => exact ⟨zeroV, hgo _ (Ev.neg (fun h => by cases h) (Ev.ok _)), fun h => by cases h⟩
  | true =>
    obtain ⟨d, hn, hv, hrest⟩ := h1 rfl
    simp only at hv hrest
    obtain ⟨hna, hle⟩ := (Num_at hm hend (by omega)).1 hn
    rw [ext_to s (b + 1) m d hm hle] at hrest
    have hrz : rest.size = m - (b + 1 + d) := by rw [hrest]; exact ext_size _ _ _ hm
    have hdv : n = dv s (b + 1) (b + 1 + d - (b + 1)) := by rw [hv, dv_ext (by omega), show b + 1 + d - (b + 1) = d by omega, Nat.add_zero]
    by_cases c1 : b + 1 + d = m
    · exact ⟨(v1, v2, n, p0, mt, true), hgo _ (Ev.pos rfl (Ev.neg (by simp only; omega) (Ev.ok _))), fun _ => ⟨b + 1 + d, p0, hna, hle, by rw [hdv], .inl ⟨c1, rfl⟩⟩⟩
    · have hb0 : bt rest 0 = bt s ((b + 1 + d : Nat) : Int) := by rw [hrest, bt_ext0 _ _ _ (by omega)]
      by_cases c2 : bt rest 0 = 45
      · have hre : rest.extract 1 rest.size = s.extract (b + 1 + d + 1) m := by rw [hrest, ext_to s (b + 1 + d) m 1 hm (by omega)]
        obtain ⟨q, hq, hqi⟩ := parts_ev (rest.extract 1 rest.size) (by rw [hre, ext_size _ _ _ hm]; omega) true
        cases q with
        | false => exact ⟨zeroV, hgo _ (Ev.pos rfl (Ev.pos (by simp only; omega) (Ev.pos (by simp only; omega) (Ev.pos c2 (Ev.pos (by simp only; omega) (Ev.bind hq (Ev.neg (by decide) (Ev.ok _)))))))), fun h => by cases h⟩
        | true =>
          refine ⟨(v1, v2, n, rest.extract 1 rest.size, mt, true), hgo _ (Ev.pos rfl (Ev.pos (by simp only; omega) (Ev.pos (by simp only; omega) (Ev.pos c2 (Ev.pos (by simp only; omega) (Ev.bind hq (Ev.pos rfl (Ev.ok _)))))))), fun _ => ⟨b + 1 + d, rest.extract 1 rest.size, hna, hle, by rw [hdv], .inr ⟨by omega, by rw [← hb0]; exact c2, ?_, hre⟩⟩⟩
          have hpf := hqi.1 rfl
          rw [hre, ext_size _ _ _ hm] at hpf
          have := PF_ext (s := s) (a := b + 1 + d + 1) (b := m) (by omega) hpf
          rw [show b + 1 + d + 1 + (m - (b + 1 + d + 1)) = m by omega, Nat.add_zero] at this
          exact this
      · exact ⟨zeroV, hgo _ (Ev.pos rfl (Ev.pos (by simp only; omega) (Ev.pos (by simp only; omega) (Ev.neg c2 (Ev.ok _))))), fun h => by cases h⟩
theorem j2_ev (s : ByteArray) (hs : s.size ≤ 100) (m a : Nat) (hm : m ≤ s.size) (hend : m = s.size ∨ ¬ isD (bt s (m : Int))) (ha : a < m) (v1 v2 v3 : Int) (p0 mt : ByteArray) :
    ∃ r : Int × Int × Int × ByteArray × ByteArray × Bool, Ev (fun k => spec_ParseVersion.j2 k (s.extract a m) false v1 v2 v3 p0 mt) r ∧ (r.2.2.2.2.2 = true → ∃ b c pre, NumAt9 s (a + 1) b ∧ b < m ∧ bt s (b : Int) = 46 ∧ NumAt9 s (b + 1) c ∧ c ≤ m ∧ r = (v1, dv s (a + 1) (b - (a + 1)), dv s (b + 1) (c - (b + 1)), pre, mt, true) ∧ ((c = m ∧ pre = p0) ∨ (c < m ∧ bt s (c : Int) = 45 ∧ PF s true m (c + 1) ∧ pre = s.extract (c + 1) m))) := by
  have hz : (s.extract a m).size = m - a := ext_size _ _ _ hm
  obtain ⟨r, hr, h1, h2⟩ := number_ev (s.extract (a + 1) m) (by rw [ext_size _ _ _ hm]; omega)
  have hgo : ∀ q, Ev (fun k => (if r.2.2 = true then (if (r.2.1.size : Int) = 0 then (spec_ParseVersion.j3 k r.2.1 true v1 r.1 v3 p0 mt) else (if 0 < (r.2.1.size : Int) then (spec_ParseVersion.j3 k r.2.1 ((bt r.2.1 0) != 46) v1 r.1 v3 p0 mt) else (none))) else (spec_ParseVersion.j3 k r.2.1 true v1 r.1 v3 p0 mt))) q → Ev (fun k => spec_ParseVersion.j2 k (s.extract a m) false v1 v2 v3 p0 mt) q := fun q hq => by
    refine Ev.step (fun k => by rw [spec_ParseVersion.j2]) (Ev.neg (by decide) (Ev.pos (by omega) ?_))
    rw [ext_to s a m 1 hm (by omega)]
    exact Ev.bind hr hq
  obtain ⟨n, rest, ok⟩ := r
  cases ok with
  | false => exact ⟨zeroV, hgo _ (Ev.neg (fun h => by cases h) (j3_no _ _ _ _ _ _)), fun h => by cases h⟩
  | true =>
    obtain ⟨d, hn, hv, hrest⟩ := h1 rfl
    simp only at hv hrest
    obtain ⟨hna, hle⟩ := (Num_at hm hend (by omega)).1 hn
    rw [ext_to s (a + 1) m d hm hle] at hrest
    have hrz : rest.size = m - (a + 1 + d) := by rw [hrest]; exact ext_size _ _ _ hm
    have hdv : n = dv s (a + 1) (a + 1 + d - (a + 1)) := by rw [hv, dv_ext (by omega), show a + 1 + d - (a + 1) = d by omega, Nat.add_zero]
    by_cases c1 : a + 1 + d = m
    · exact ⟨zeroV, hgo _ (Ev.pos rfl (Ev.pos (by simp only; omega) (j3_no _ _ _ _ _ _))), fun h => by cases h⟩
    · have hb0 : bt rest 0 = bt s ((a + 1 + d : Nat) : Int) := by rw [hrest, bt_ext0 _ _ _ (by omega)]
      by_cases c2 : bt rest 0 = 46
      · obtain ⟨r3, hr3, h3⟩ := j3_ev s hs m (a + 1 + d) hm hend (by omega) v1 n v3 p0 mt
        rw [← hrest] at hr3
        refine ⟨r3, hgo _ (Ev.pos rfl (Ev.neg (by simp only; omega) (Ev.pos (by simp only; omega) ?_))), fun h => ?_⟩
        · simp only
          rw [c2]
          exact hr3
        · obtain ⟨c, pre, g1, g2, g3, g4⟩ := h3 h
          exact ⟨a + 1 + d, c, pre, hna, by omega, by rw [← hb0]; exact c2, g1, g2, by rw [g3, hdv], g4⟩
      · refine ⟨zeroV, hgo _ (Ev.pos rfl (Ev.neg (by simp only; omega) (Ev.pos (by simp only; omega) ?_))), fun h => by cases h⟩
        simp only
        rw [bne_iff_ne.2 c2]
        exact j3_no _ _ _ _ _ _
theorem j1_ev (s : ByteArray) (hs : s.size ≤ 100) (m : Nat) (hm : m ≤ s.size) (hend : m = s.size ∨ ¬ isD (bt s (m : Int))) (v1 v2 v3 : Int) (p0 mt : ByteArray) :
    ∃ r : Int × Int × Int × ByteArray × ByteArray × Bool, Ev (fun k => spec_ParseVersion.j1 k (s.extract 0 m) v1 v2 v3 p0 mt) r ∧ (r.2.2.2.2.2 = true → ∃ a b c pre, NumAt9 s 0 a ∧ a < m ∧ bt s (a : Int) = 46 ∧ NumAt9 s (a + 1) b ∧ b < m ∧ bt s (b : Int) = 46 ∧ NumAt9 s (b + 1) c ∧ c ≤ m ∧ r = (dv s 0 a, dv s (a + 1) (b - (a + 1)), dv s (b + 1) (c - (b + 1)), pre, mt, true) ∧ ((c = m ∧ pre = p0) ∨ (c < m ∧ bt s (c : Int) = 45 ∧ PF s true m (c + 1) ∧ pre = s.extract (c + 1) m))) := by
  obtain ⟨r, hr, h1, h2⟩ := number_ev (s.extract 0 m) (by rw [ext_size _ _ _ hm]; omega)
  have hgo : ∀ q, Ev (fun k => (if r.2.2 = true then (if (r.2.1.size : Int) = 0 then (spec_ParseVersion.j2 k r.2.1 true r.1 v2 v3 p0 mt) else (if 0 < (r.2.1.size : Int) then (spec_ParseVersion.j2 k r.2.1 ((bt r.2.1 0) != 46) r.1 v2 v3 p0 mt) else (none))) else (spec_ParseVersion.j2 k r.2.1 true r.1 v2 v3 p0 mt))) q → Ev (fun k => spec_ParseVersion.j1 k (s.extract 0 m) v1 v2 v3 p0 mt) q := fun q hq =>
    Ev.step (fun k => by rw [spec_ParseVersion.j1]) (Ev.bind hr hq)
  obtain ⟨n, rest, ok⟩ := r
  cases ok with
  | false => exact ⟨zeroV, hgo _ (Ev.neg (fun h => by cases h) (j2_no _ _ _ _ _ _)), fun h => by cases h⟩
  | true =>
    obtain ⟨d, hn, hv, hrest⟩ := h1 rfl
    simp only at hv hrest
    obtain ⟨hna, hle⟩ := (Num_at hm hend (by omega)).1 hn
    rw [ext_to s 0 m d hm hle, Nat.zero_add] at hrest
    rw [Nat.zero_add] at hna hle
    have hrz : rest.size = m - d := by rw [hrest]; exact ext_size _ _ _ hm
    have hdv : n = dv s 0 d := by rw [hv, dv_ext (by omega)]
    by_cases c1 : d = m
    · exact ⟨zeroV, hgo _ (Ev.pos rfl (Ev.pos (by simp only; omega) (j2_no _ _ _ _ _ _))), fun h => by cases h⟩
    · have hb0 : bt rest 0 = bt s (d : Int) := by rw [hrest, bt_ext0 _ _ _ (by omega)]
      by_cases c2 : bt rest 0 = 46
      · obtain ⟨r3, hr3, h3⟩ := j2_ev s hs m d hm hend (by omega) n v2 v3 p0 mt
        rw [← hrest] at hr3
        refine ⟨r3, hgo _ (Ev.pos rfl (Ev.neg (by simp only; omega) (Ev.pos (by simp only; omega) ?_))), fun h => ?_⟩
        · simp only
          rw [c2]
          exact hr3
        · obtain ⟨b, c, pre, g0, g1, g2, g3, g4, g5, g6⟩ := h3 h
          exact ⟨d, b, c, pre, hna, by omega, by rw [← hb0]; exact c2, g0, g1, g2, g3, g4, by rw [g5, hdv], g6⟩
      · refine ⟨zeroV, hgo _ (Ev.pos rfl (Ev.neg (by simp only; omega) (Ev.pos (by simp only; omega) ?_))), fun h => by cases h⟩
        simp only
        rw [bne_iff_ne.2 c2]
        exact j2_no _ _ _ _ _ _
theorem parse_l (s : ByteArray) (hs : s.size ≤ 100) : ∀ n i : Nat, i + n = s.size → (∀ j, j < i → bt s (j : Int) ≠ 43) →
    ∃ r : Int × Int × Int × ByteArray × ByteArray × Bool, Ev (fun k => spec_ParseVersion.l0 k s (i : Int) 0 0 0 ⟨#[]⟩ ⟨#[]⟩) r ∧ (r.2.2.2.2.2 = true → ∃ a b c m, Form9 s a b c m r.1 r.2.1 r.2.2.1 r.2.2.2.1 r.2.2.2.2.1)
  | 0, i, hn, hno => by
    obtain rfl : i = s.size := by omega
    obtain ⟨r, hr, h1⟩ := j1_ev s hs s.size (Nat.le_refl _) (.inl rfl) 0 0 0 ⟨#[]⟩ ⟨#[]⟩
    rw [ext_all] at hr
    refine ⟨r, Ev.step (fun k => by rw [spec_ParseVersion.l0]) (Ev.neg (by omega) hr), fun h => ?_⟩
    obtain ⟨a, b, c, pre, g1, g2, g3, g4, g5, g6, g7, g8, g9, g10⟩ := h1 h
    subst g9
    exact ⟨a, b, c, s.size, ⟨hs, g1, g3, g2, g4, g6, g5, g7, g8, Nat.le_refl _, g10, .inl ⟨rfl, rfl⟩, rfl, rfl, rfl, hno⟩⟩
  | n + 1, i, hn, hno => by
    have e1 : wrap64 ((i : Int) + 1) = ((i + 1 : Nat) : Int) := by rw [w64_in (by omega) (by omega)]; omega
    by_cases c1 : bt s (i : Int) = 43
    · have e2 : (((i + 1 : Nat) : Int)).toNat = i + 1 := by omega
      have e3 : ((i : Int)).toNat = i := by omega
      obtain ⟨q, hq, hqi⟩ := parts_ev (s.extract (i + 1) s.size) (by rw [ext_size _ _ _ (Nat.le_refl _)]; omega) false
      obtain ⟨r, hr, h1⟩ := j1_ev s hs i (by omega) (.inr (by rw [c1]; unfold isD; omega)) 0 0 0 ⟨#[]⟩ (s.extract (i + 1) s.size)
      have hgo : ∀ z, Ev (fun k => (if q = true then (spec_ParseVersion.j1 k (s.extract 0 i) 0 0 0 ⟨#[]⟩ (s.extract (i + 1) s.size)) else (some (0, 0, 0, (⟨#[]⟩ : ByteArray), (⟨#[]⟩ : ByteArray), false)))) z → Ev (fun k => spec_ParseVersion.l0 k s (i : Int) 0 0 0 ⟨#[]⟩ ⟨#[]⟩) z := fun z hz => by
        refine Ev.step (fun k => by rw [spec_ParseVersion.l0]) (Ev.pos (by omega) (Ev.pos (by omega) (Ev.pos c1 (Ev.pos (by rw [e1]; omega) (Ev.pos (by rw [e1]; omega) (Ev.pos (by omega) ?_))))))
        rw [e1, e2, e3]
        exact Ev.bind hq hz
      cases q with
      | false => exact ⟨zeroV, hgo _ (Ev.neg (fun h => by cases h) (Ev.ok _)), fun h => by cases h⟩
      | true =>
        refine ⟨r, hgo _ (Ev.pos rfl hr), fun h => ?_⟩
        obtain ⟨a, b, c, pre, g1, g2, g3, g4, g5, g6, g7, g8, g9, g10⟩ := h1 h
        subst g9
        refine ⟨a, b, c, i, ⟨hs, g1, g3, by omega, g4, g6, by omega, g7, g8, by omega, g10, .inr ⟨by omega, c1, ?_, rfl⟩, rfl, rfl, rfl, hno⟩⟩
        have hpf := hqi.1 rfl
        rw [ext_size _ _ _ (Nat.le_refl _)] at hpf
        have := PF_ext (s := s) (a := i + 1) (b := s.size) (by omega) hpf
        rw [show i + 1 + (s.size - (i + 1)) = s.size by omega, Nat.add_zero] at this
        exact this
    · obtain ⟨r, hr, h1⟩ := parse_l s hs n (i + 1) (by omega) (fun j hj => by
        rcases Nat.lt_or_ge j i with q | q
        · exact hno j q
        · obtain rfl : j = i := by omega
          exact c1)
      exact ⟨r, Ev.step (fun k => by rw [spec_ParseVersion.l0]) (Ev.pos (by omega) (Ev.pos (by omega) (Ev.neg c1 (by rw [e1]; exact hr)))), h1⟩
theorem parse_ev9 (s : ByteArray) : ∃ r : Int × Int × Int × ByteArray × ByteArray × Bool, Ev (fun k => spec_ParseVersion.f k s) r ∧ (r.2.2.2.2.2 = true → ∃ a b c m, Form9 s a b c m r.1 r.2.1 r.2.2.1 r.2.2.2.1 r.2.2.2.2.1) := by
  unfold spec_ParseVersion.f
  by_cases c : (s.size : Int) > 100
  · exact ⟨zeroV, Ev.pos c (Ev.ok _), fun h => by cases h⟩
  · obtain ⟨r, h1, h2⟩ := parse_l s (by omega) s.size 0 (by omega) (fun j h => by omega)
    exact ⟨r, Ev.neg c h1, h2⟩
/-- A number within a text, from x to e, of at most 15 digits. -/
def NumAt (s : ByteArray) (x e : Nat) : Prop := x < e ∧ e ≤ x + 15 ∧ e ≤ s.size ∧ (∀ j, x ≤ j → j < e → isD (bt s (j : Int))) ∧ (e = s.size ∨ ¬ isD (bt s (e : Int))) ∧ (e = x + 1 ∨ bt s (x : Int) ≠ 48)
theorem NumAt9.wide {s : ByteArray} {x e : Nat} (h : NumAt9 s x e) : NumAt s x e := ⟨h.1, by have := h.2.1; omega, h.2.2.1, h.2.2.2.1, h.2.2.2.2.1, h.2.2.2.2.2⟩
/-- The form of a version, whose numbers have at most 15 digits. -/
structure Form (s : ByteArray) (a b c m : Nat) (n1 n2 n3 : Int) (pre meta_ : ByteArray) : Prop where
  size : s.size ≤ 100
  d1 : NumAt s 0 a
  p1 : bt s (a : Int) = 46
  q1 : a < s.size
  d2 : NumAt s (a + 1) b
  p2 : bt s (b : Int) = 46
  q2 : b < s.size
  d3 : NumAt s (b + 1) c
  cm : c ≤ m
  ms : m ≤ s.size
  hpre : (c = m ∧ pre = ⟨#[]⟩) ∨ (c < m ∧ bt s (c : Int) = 45 ∧ PF s true m (c + 1) ∧ pre = s.extract (c + 1) m)
  hmeta : (m = s.size ∧ meta_ = ⟨#[]⟩) ∨ (m < s.size ∧ bt s (m : Int) = 43 ∧ PF s false s.size (m + 1) ∧ meta_ = s.extract (m + 1) s.size)
  v1 : n1 = dv s 0 a
  v2 : n2 = dv s (a + 1) (b - (a + 1))
  v3 : n3 = dv s (b + 1) (c - (b + 1))
  noplus : ∀ j, j < m → bt s (j : Int) ≠ 43
theorem Form9.wide {s : ByteArray} {a b c m : Nat} {n1 n2 n3 : Int} {pre mt : ByteArray} (h : Form9 s a b c m n1 n2 n3 pre mt) : Form s a b c m n1 n2 n3 pre mt :=
  ⟨h.size, h.d1.wide, h.p1, h.q1, h.d2.wide, h.p2, h.q2, h.d3.wide, h.cm, h.ms, h.hpre, h.hmeta, h.v1, h.v2, h.v3, h.noplus⟩
theorem NumAt9.lt {s : ByteArray} {x e : Nat} (h : NumAt9 s x e) : 0 ≤ dv s x (e - x) ∧ dv s x (e - x) < 1000000000 := by
  obtain ⟨h1, h2, h3, h4, _⟩ := h
  exact dv_nine (by omega) (fun j q1 q2 => h4 j q1 (by omega))
theorem Form9.lt {s : ByteArray} {a b c m : Nat} {n1 n2 n3 : Int} {pre mt : ByteArray} (h : Form9 s a b c m n1 n2 n3 pre mt) : (0 ≤ n1 ∧ n1 < 1000000000) ∧ (0 ≤ n2 ∧ n2 < 1000000000) ∧ (0 ≤ n3 ∧ n3 < 1000000000) := by
  have h1 := h.d1.lt
  rw [Nat.sub_zero] at h1
  have h2 := h.d2.lt
  have h3 := h.d3.lt
  rw [← h.v1] at h1
  rw [← h.v2] at h2
  rw [← h.v3] at h3
  exact ⟨h1, h2, h3⟩
theorem dv_fifteen {s : ByteArray} {x d : Nat} (hd : d ≤ 15) (h : ∀ j, x ≤ j → j < x + d → isD (bt s (j : Int))) : 0 ≤ dv s x d ∧ dv s x d < 1000000000000000 := by
  have h1 := dv_range h
  have h2 : (10 : Int) ^ d ≤ 10 ^ 15 := by
    have : (10 : Nat) ^ d ≤ 10 ^ 15 := Nat.pow_le_pow_right (by decide) hd
    exact_mod_cast this
  have h3 : (10 : Int) ^ 15 = 1000000000000000 := by decide
  omega
theorem parse_ev (s : ByteArray) : ∃ r : Int × Int × Int × ByteArray × ByteArray × Bool, Ev (fun k => spec_ParseVersion.f k s) r ∧ (r.2.2.2.2.2 = true → ∃ a b c m, Form s a b c m r.1 r.2.1 r.2.2.1 r.2.2.2.1 r.2.2.2.2.1) := by
  obtain ⟨r, h1, h2⟩ := parse_ev9 s
  refine ⟨r, h1, fun h => ?_⟩
  obtain ⟨a, b, c, m, hf⟩ := h2 h
  exact ⟨a, b, c, m, hf.wide⟩
end Go.Proofs.YtlhijjfbcgconaaDoor.P

