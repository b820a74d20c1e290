/- Texts joined: Rg15, Rg16, Rg17, Rg18, Rg19, Rg20, Rg21, Rg22, Rg23, Rg24, Rg25. -/
import Derived.Test.YtlhijjfbcgconaaDoorZRgA
import Derived.Test.YtlhijjfbcgconaaDoorZSv
import Derived.Test.YtlhijjfbcgconaaDoorZRgC
import Derived.Test.YtlhijjfbcgconaaDoorZSnM

/- Ranges: versions of three, two and one numbers as constraints. -/
set_option linter.unusedVariables false
set_option linter.unusedSimpArgs false
namespace Go.Proofs.YtlhijjfbcgconaaDoor.P
open Go.RowKit Go.Proofs.YtlhijjfbcgconaaDoorW.PrintWords Go.Proofs.YtlhijjfbcgconaaDoorW.PrintLast Go.Proofs.YtlhijjfbcgconaaDoorW.PrintMore

theorem parts_end (s : ByteArray) (hs : s.size ≤ 1000) (c : Int) (hc : c = 45 ∨ c = 43) : Ev (fun k => semver_zzParts.f k s (s.size : Int) c) (s.size : Int) := by
  obtain ⟨e, h1, h2, h3⟩ := parts_tot s (by omega) s.size c (Nat.le_refl _)
  rwa [show e = s.size by omega] at h3
theorem isM_v {x : Int} (h : isM x) : x ≠ 118 ∧ x ≠ 46 ∧ x ≠ 126 := by
  unfold isM at h
  omega
theorem v0_at {s : ByteArray} {a : Nat} (ha : a < s.size) (h : isM (bt s (a : Int))) : V0 s a a := .inl ⟨rfl, .inr ⟨ha, (isM_v h).1⟩⟩
theorem ver3 {s : ByteArray} {a p q : Nat} (hs : s.size ≤ 1000) (h1 : a < p) (h2 : p + 1 < q) (h3 : q + 1 < s.size) (d1 : ∀ j, a ≤ j → j < p → isM (bt s (j : Int))) (c1 : bt s (p : Int) = 46) (d2 : ∀ j, p + 1 ≤ j → j < q → isM (bt s (j : Int))) (c2 : bt s (q : Int) = 46) (d3 : ∀ j, q + 1 ≤ j → j < s.size → isM (bt s (j : Int))) :
    Ver s a s.size (s.extract a p) (s.extract p q) (s.extract q s.size) ⟨#[]⟩ a p q s.size s.size where
  hv := v0_at (by omega) (d1 a (Nat.le_refl _) h1)
  h0 := h1
  ha := by omega
  hm := mark_f s (by omega) a p (by omega) (by omega) (.inr (fun h => (isM_v h).2.1 c1)) d1
  e0 := rfl
  s1 := .on (by omega) c1 h2 (by omega) (mark_f s (by omega) (p + 1) q (by omega) (by omega) (.inr (fun h => (isM_v h).2.1 c2)) d2)
  s2 := .inr ⟨by omega, .on (by omega) c2 h3 (Nat.le_refl _) (mark_f s (by omega) (q + 1) s.size (by omega) (Nat.le_refl _) (.inl rfl) d3)⟩
  hcd := Nat.le_refl _
  hd := Nat.le_refl _
  p3 := parts_end s hs 45 (.inl rfl)
  e3 := by rw [if_neg (Nat.lt_irrefl _)]
  hde := Nat.le_refl _
  he := Nat.le_refl _
  p4 := parts_end s hs 43 (.inr rfl)
theorem ver2 {s : ByteArray} {a p : Nat} (hs : s.size ≤ 1000) (h1 : a < p) (h2 : p + 1 < s.size) (d1 : ∀ j, a ≤ j → j < p → isM (bt s (j : Int))) (c1 : bt s (p : Int) = 46) (d2 : ∀ j, p + 1 ≤ j → j < s.size → isM (bt s (j : Int))) :
    Ver s a s.size (s.extract a p) (s.extract p s.size) ⟨#[]⟩ ⟨#[]⟩ a p s.size s.size s.size where
  hv := v0_at (by omega) (d1 a (Nat.le_refl _) h1)
  h0 := h1
  ha := by omega
  hm := mark_f s (by omega) a p (by omega) (by omega) (.inr (fun h => (isM_v h).2.1 c1)) d1
  e0 := rfl
  s1 := .on (by omega) c1 h2 (Nat.le_refl _) (mark_f s (by omega) (p + 1) s.size (by omega) (Nat.le_refl _) (.inl rfl) d2)
  s2 := .inr ⟨by omega, .off1 rfl⟩
  hcd := Nat.le_refl _
  hd := Nat.le_refl _
  p3 := parts_end s hs 45 (.inl rfl)
  e3 := by rw [if_neg (Nat.lt_irrefl _)]
  hde := Nat.le_refl _
  he := Nat.le_refl _
  p4 := parts_end s hs 43 (.inr rfl)
theorem ver1 {s : ByteArray} {a : Nat} (hs : s.size ≤ 1000) (h1 : a < s.size) (d1 : ∀ j, a ≤ j → j < s.size → isM (bt s (j : Int))) :
    Ver s a s.size (s.extract a s.size) ⟨#[]⟩ ⟨#[]⟩ ⟨#[]⟩ a s.size s.size s.size s.size where
  hv := v0_at (by omega) (d1 a (Nat.le_refl _) h1)
  h0 := h1
  ha := Nat.le_refl _
  hm := mark_f s (by omega) a s.size (by omega) (Nat.le_refl _) (.inl rfl) d1
  e0 := rfl
  s1 := .off1 rfl
  s2 := .inl ⟨rfl, rfl, rfl⟩
  hcd := Nat.le_refl _
  hd := Nat.le_refl _
  p3 := parts_end s hs 45 (.inl rfl)
  e3 := by rw [if_neg (Nat.lt_irrefl _)]
  hde := Nat.le_refl _
  he := Nat.le_refl _
  p4 := parts_end s hs 43 (.inr rfl)
theorem fails_first {s : ByteArray} {i : Nat} {o : ByteArray} {b : Int} (ho : 0 < o.size) (hb : bt o 0 = b) (h : i < s.size → bt s (i : Int) ≠ b) : Fails s i o := by
  by_cases c : i + o.size ≤ s.size
  · refine .other c (fun he => h (by omega) ?_)
    have h2 := bt_ext s i (i + o.size) 0 (by omega)
    rw [he, Nat.add_zero] at h2
    rw [← h2]
    exact hb
  · exact .short (by omega)
theorem space_none (s : ByteArray) (hs : s.size ≤ 1000) (i : Nat) (hi : i ≤ s.size) (h : i < s.size → ¬ isS (bt s (i : Int))) : Ev (fun k => semver_zzSpace.f k s (i : Int)) (i : Int) :=
  space_f s (by omega) i i (Nat.le_refl _) hi (if c : i = s.size then .inl c else .inr (h (by omega))) (fun j h1 h2 => absurd h2 (by omega))
/-- A text that is one version. -/
theorem at_plain {s : ByteArray} (hs : s.size ≤ 1000) (h0 : 0 < s.size) (hm : isM (bt s 0)) (hv : ∃ m0 m1 m2 m3 i0 a1 b c d, Ver s 0 s.size m0 m1 m2 m3 i0 a1 b c d) : At s 0 1 0 s.size where
  hK := by decide
  hf := fun j hj => by
    obtain rfl : j = 0 := by omega
    exact fails_first (b := 61) (by decide) (by decide +kernel) (fun _ h => by unfold isM at hm; rw [show ((0 : Nat) : Int) = 0 from rfl] at h; omega)
  hh := ⟨Nat.zero_le _, by show s.extract 0 0 = ⟨#[]⟩; exact ba_ext (List.eq_nil_of_length_eq_zero (by rw [size_list, ByteArray.size_extract]; omega)), space_none s hs 0 (Nat.zero_le _) (fun _ h => by unfold isM at hm; unfold isS at h; rw [show ((0 : Nat) : Int) = 0 from rfl] at h; omega), Nat.le_refl _, Nat.zero_le _, h0, hv⟩
end Go.Proofs.YtlhijjfbcgconaaDoor.P


/- Ranges: what the tilde answers is what lies within (plain law). -/
set_option linter.unusedVariables false
set_option linter.unusedSimpArgs false
namespace Go.Proofs.YtlhijjfbcgconaaDoor.P
open Go.RowKit Go.Proofs.YtlhijjfbcgconaaDoorW.PrintWords Go.Proofs.YtlhijjfbcgconaaDoorW.PrintLast Go.Proofs.YtlhijjfbcgconaaDoorW.PrintMore

theorem seg3_neg (a b : Int) : seg3 a b < 0 ↔ a < b := by
  unfold seg3
  repeat' split
  all_goals (constructor <;> intro h <;> omega)
theorem seg3_zero (a b : Int) : seg3 a b = 0 ↔ a = b := by
  unfold seg3
  repeat' split
  all_goals (constructor <;> intro h <;> omega)
theorem ord3_neg (n1 n2 n3 m1 m2 m3 : Int) : ord3 n1 n2 n3 m1 m2 m3 < 0 ↔ n1 < m1 ∨ (n1 = m1 ∧ (n2 < m2 ∨ (n2 = m2 ∧ n3 < m3))) := by
  unfold ord3
  have a1 := seg3_neg n1 m1
  have a2 := seg3_neg n2 m2
  have a3 := seg3_neg n3 m3
  have b1 := seg3_zero n1 m1
  have b2 := seg3_zero n2 m2
  have b3 := seg3_zero n3 m3
  by_cases h1 : seg3 n1 m1 = 0
  · rw [if_neg (fun q => q h1)]
    by_cases h2 : seg3 n2 m2 = 0
    · rw [if_neg (fun q => q h2)]
      omega
    · rw [if_pos h2]
      omega
  · rw [if_pos h1]
    omega
/-- Within, in numbers. -/
def WI (v1 v2 v3 f1 f2 f3 t1 t2 t3 : Int) : Bool := decide (ord3 v1 v2 v3 f1 f2 f3 ≥ 0) && ((t1 == 0 && t2 == 0 && t3 == 0) || decide (ord3 v1 v2 v3 t1 t2 t3 < 0))
theorem wi_iff (v1 v2 v3 f1 f2 f3 t1 t2 t3 : Int) : WI v1 v2 v3 f1 f2 f3 t1 t2 t3 = true ↔ (¬ ord3 v1 v2 v3 f1 f2 f3 < 0) ∧ ((t1 = 0 ∧ t2 = 0 ∧ t3 = 0) ∨ ord3 v1 v2 v3 t1 t2 t3 < 0) := by
  unfold WI
  simp only [Bool.and_eq_true, Bool.or_eq_true, decide_eq_true_eq, beq_iff_eq, ge_iff_le, and_assoc, Int.not_lt]
theorem tilde_iff (C a1 a2 b1 b2 b3 : Int) (md pd : Bool) : tildeB C a1 a2 b1 b2 b3 md pd = true ↔ ¬ C < 0 ∧ ((b1 = 0 ∧ b2 = 0 ∧ b3 = 0 ∧ md = false ∧ pd = false) ∨ (a1 = b1 ∧ (a2 = b2 ∨ md = true))) := by
  unfold tildeB
  by_cases h0 : C < 0
  · simp [h0]
  · rw [if_neg h0]
    by_cases h1 : b1 = 0 ∧ b2 = 0 ∧ b3 = 0 ∧ md = false ∧ pd = false
    · simp [h0, h1]
    · rw [if_neg h1]
      by_cases h2 : a1 = b1
      · rw [if_neg (fun q => q h2)]
        by_cases h3 : a2 = b2
        · rw [if_neg (fun q => q.1 h3)]
          simp [h0, h2, h3]
        · cases md
          · simp [h0, h2, h3] at h1 ⊢
            exact h1
          · simp [h0, h2, h3]
      · rw [if_pos h2]
        constructor
        · intro q
          cases q
        · rintro ⟨_, q | ⟨q, _⟩⟩
          · exact absurd q h1
          · exact absurd q h2
/-- ~1.2.3, ~1.2, 1.2, 1.2.x -/
theorem tilde_minor (v1 v2 v3 a b c : Int) (pd : Bool) (hb : 0 ≤ b) (h3 : 0 ≤ v3) (h : a ≠ 0 ∨ pd = true) : tildeB (ord3 v1 v2 v3 a b c) v1 v2 a b c false pd = WI v1 v2 v3 a b c a (b + 1) 0 := by
  rw [Bool.eq_iff_iff, tilde_iff, wi_iff, ord3_neg, ord3_neg]
  rcases h with h | h
  · simp only [h, false_and, false_or, Bool.false_eq_true, or_false]
    omega
  · subst h
    simp only [Bool.true_eq_false, Bool.false_eq_true, and_false, false_or, or_false]
    omega
/-- ~1, 1, 1.x -/
theorem tilde_major (v1 v2 v3 a : Int) (pd : Bool) (ha : 0 ≤ a) (h2 : 0 ≤ v2) (h3 : 0 ≤ v3) : tildeB (ord3 v1 v2 v3 a 0 0) v1 v2 a 0 0 true pd = WI v1 v2 v3 a 0 0 (a + 1) 0 0 := by
  rw [Bool.eq_iff_iff, tilde_iff, wi_iff, ord3_neg, ord3_neg]
  simp only [Bool.true_eq_false, and_false, false_and, false_or, or_true, eq_self, and_true]
  omega
/-- * -/
theorem tilde_any (v1 v2 v3 : Int) : tildeB (ord3 v1 v2 v3 0 0 0) v1 v2 0 0 0 false false = WI v1 v2 v3 0 0 0 0 0 0 := by
  rw [Bool.eq_iff_iff, tilde_iff, wi_iff, ord3_neg]
  simp
end Go.Proofs.YtlhijjfbcgconaaDoor.P


/- Ranges: where the numbers of a text lie. -/
set_option linter.unusedVariables false
set_option linter.unusedSimpArgs false
namespace Go.Proofs.YtlhijjfbcgconaaDoor.P
open Go.RowKit Go.Proofs.YtlhijjfbcgconaaDoorW.PrintWords Go.Proofs.YtlhijjfbcgconaaDoorW.PrintLast Go.Proofs.YtlhijjfbcgconaaDoorW.PrintMore

theorem isD_M {x : Int} (h : isD x) : isM x := .inl h
theorem dgM (s : ByteArray) (x u : Nat) (h : ∀ (j : Nat) (v : UInt8), (Lib.decDigits u)[j]? = some v → bt s ((x + j : Nat) : Int) = (v.toNat : Int)) : ∀ j, x ≤ j → j < x + Lib.nDigits u → isM (bt s (j : Int)) := by
  intro j h1 h2
  have := (dd s x u u (Nat.le_refl _) h).2.1 (j - x) (by omega)
  rw [show x + (j - x) = j by omega] at this
  exact isD_M this
/-- A number behind a beginning. -/
theorem pos1 (s : ByteArray) (pre : List UInt8) (a : Nat) (T : List UInt8) (hl : s.data.toList = pre ++ (Lib.decDigits a ++ T)) :
    (∀ j, pre.length ≤ j → j < pre.length + Lib.nDigits a → isM (bt s (j : Int))) ∧ s.size = pre.length + Lib.nDigits a + T.length := by
  have ea := Lib.decDigits_length a
  refine ⟨dgM s pre.length a (fun j v hj => bt_some ?_), ?_⟩
  · rw [hl, List.getElem?_append_right (by omega), show pre.length + j - pre.length = j by omega, List.getElem?_append_left (List.getElem?_eq_some_iff.1 hj).1]
    exact hj
  · rw [← size_list, hl]
    simp only [List.length_append, ea]
    omega
/-- Two numbers with a point between. -/
theorem pos2 (s : ByteArray) (pre : List UInt8) (a b : Nat) (T : List UInt8) (hl : s.data.toList = pre ++ (Lib.decDigits a ++ (46 :: (Lib.decDigits b ++ T)))) :
    (∀ j, pre.length ≤ j → j < pre.length + Lib.nDigits a → isM (bt s (j : Int))) ∧ bt s ((pre.length + Lib.nDigits a : Nat) : Int) = 46 ∧ (∀ j, pre.length + Lib.nDigits a + 1 ≤ j → j < pre.length + Lib.nDigits a + 1 + Lib.nDigits b → isM (bt s (j : Int))) ∧ s.size = pre.length + Lib.nDigits a + 1 + Lib.nDigits b + T.length := by
  have ea := Lib.decDigits_length a
  obtain ⟨h1, h2⟩ := pos1 s pre a _ hl
  have h3 := pos1 s (pre ++ (Lib.decDigits a ++ [46])) b T (by rw [hl]; simp)
  have hz : (pre ++ (Lib.decDigits a ++ [46])).length = pre.length + Lib.nDigits a + 1 := by
    simp only [List.length_append, ea, List.length_singleton]
    omega
  rw [hz] at h3
  refine ⟨h1, bt_some (v := 46) ?_, h3.1, h3.2⟩
  rw [hl, List.getElem?_append_right (by omega), show pre.length + Lib.nDigits a - pre.length = Lib.nDigits a by omega, List.getElem?_append_right (by omega), ea, Nat.sub_self]
  rfl
/-- A text's version of three numbers (a sign for the last too: T). -/
theorem text3 (s : ByteArray) (hs : s.size ≤ 1000) (pre : List UInt8) (a b : Nat) (T : List UInt8) (hT : 0 < T.length) (hTM : ∀ v ∈ T, isM (v.toNat : Int)) (hl : s.data.toList = pre ++ (Lib.decDigits a ++ (46 :: (Lib.decDigits b ++ (46 :: T))))) :
    ∃ p q, pre.length < p ∧ p + 1 < q ∧ q + 1 < s.size ∧ p = pre.length + Lib.nDigits a ∧ q = pre.length + Lib.nDigits a + 1 + Lib.nDigits b ∧ Ver s pre.length s.size (s.extract pre.length p) (s.extract p q) (s.extract q s.size) ⟨#[]⟩ pre.length p q s.size s.size := by
  have ea := Lib.decDigits_length a
  have eb := Lib.decDigits_length b
  have pa := Lib.nDigits_pos a
  have pb := Lib.nDigits_pos b
  obtain ⟨h1, h2, h3, h4⟩ := pos2 s pre a b _ hl
  rw [List.length_cons] at h4
  refine ⟨_, _, ?_, ?_, ?_, rfl, rfl, ver3 hs ?_ ?_ ?_ h1 h2 h3 ?_ ?_⟩
  · omega
  · omega
  · omega
  · omega
  · omega
  · omega
  · refine bt_some (v := 46) ?_
    rw [hl, List.getElem?_append_right (by omega), List.getElem?_append_right (by omega), ea, show pre.length + Lib.nDigits a + 1 + Lib.nDigits b - pre.length - Lib.nDigits a = Lib.nDigits b + 1 by omega, List.getElem?_cons_succ, List.getElem?_append_right (by omega), eb, Nat.sub_self]
    rfl
  · intro j g1 g2
    obtain ⟨v, hv⟩ : ∃ v, T[j - (pre.length + Lib.nDigits a + 1 + Lib.nDigits b + 1)]? = some v := ⟨T[j - (pre.length + Lib.nDigits a + 1 + Lib.nDigits b + 1)]'(by omega), List.getElem?_eq_getElem _⟩
    have hb : bt s (j : Int) = (v.toNat : Int) := bt_some (by
      rw [hl, List.getElem?_append_right (by omega), List.getElem?_append_right (by omega), ea, show j - pre.length - Lib.nDigits a = (j - (pre.length + Lib.nDigits a + 1)) + 1 by omega, List.getElem?_cons_succ, List.getElem?_append_right (by omega), eb, show j - (pre.length + Lib.nDigits a + 1) - Lib.nDigits b = (j - (pre.length + Lib.nDigits a + 1 + Lib.nDigits b + 1)) + 1 by omega, List.getElem?_cons_succ]
      exact hv)
    rw [hb]
    exact hTM v (List.mem_of_getElem? hv)
end Go.Proofs.YtlhijjfbcgconaaDoor.P


/- Ranges: texts of two numbers and of one; no white space, no bar. -/
set_option linter.unusedVariables false
set_option linter.unusedSimpArgs false
namespace Go.Proofs.YtlhijjfbcgconaaDoor.P
open Go.RowKit Go.Proofs.YtlhijjfbcgconaaDoorW.PrintWords Go.Proofs.YtlhijjfbcgconaaDoorW.PrintLast Go.Proofs.YtlhijjfbcgconaaDoorW.PrintMore

/-- Two numbers (a sign for the last too: T). -/
theorem text2 (s : ByteArray) (hs : s.size ≤ 1000) (pre : List UInt8) (a : Nat) (T : List UInt8) (hT : 0 < T.length) (hTM : ∀ v ∈ T, isM (v.toNat : Int)) (hl : s.data.toList = pre ++ (Lib.decDigits a ++ (46 :: T))) :
    ∃ p, pre.length < p ∧ p + 1 < s.size ∧ p = pre.length + Lib.nDigits a ∧ Ver s pre.length s.size (s.extract pre.length p) (s.extract p s.size) ⟨#[]⟩ ⟨#[]⟩ pre.length p s.size s.size s.size := by
  have ea := Lib.decDigits_length a
  have pa := Lib.nDigits_pos a
  obtain ⟨h1, h2⟩ := pos1 s pre a _ hl
  rw [List.length_cons] at h2
  refine ⟨_, ?_, ?_, rfl, ver2 hs ?_ ?_ h1 ?_ ?_⟩
  · omega
  · omega
  · omega
  · omega
  · refine bt_some (v := 46) ?_
    rw [hl, List.getElem?_append_right (by omega), List.getElem?_append_right (by omega), ea, show pre.length + Lib.nDigits a - pre.length - Lib.nDigits a = 0 by omega]
    rfl
  · intro j g1 g2
    obtain ⟨v, hv⟩ : ∃ v, T[j - (pre.length + Lib.nDigits a + 1)]? = some v := ⟨T[j - (pre.length + Lib.nDigits a + 1)]'(by omega), List.getElem?_eq_getElem _⟩
    have hb : bt s (j : Int) = (v.toNat : Int) := bt_some (by
      rw [hl, List.getElem?_append_right (by omega), List.getElem?_append_right (by omega), ea, show j - pre.length - Lib.nDigits a = (j - (pre.length + Lib.nDigits a + 1)) + 1 by omega, List.getElem?_cons_succ]
      exact hv)
    rw [hb]
    exact hTM v (List.mem_of_getElem? hv)
/-- One number, or a sign. -/
theorem text1 (s : ByteArray) (hs : s.size ≤ 1000) (pre T : List UInt8) (hT : 0 < T.length) (hTM : ∀ v ∈ T, isM (v.toNat : Int)) (hl : s.data.toList = pre ++ T) :
    Ver s pre.length s.size (s.extract pre.length s.size) ⟨#[]⟩ ⟨#[]⟩ ⟨#[]⟩ pre.length s.size s.size s.size s.size := by
  have hz : s.size = pre.length + T.length := by rw [← size_list, hl, List.length_append]
  refine ver1 hs (by omega) (fun j g1 g2 => ?_)
  obtain ⟨v, hv⟩ : ∃ v, T[j - pre.length]? = some v := ⟨T[j - pre.length]'(by omega), List.getElem?_eq_getElem _⟩
  have hb : bt s (j : Int) = (v.toNat : Int) := bt_some (by
    rw [hl, List.getElem?_append_right (by omega)]
    exact hv)
  rw [hb]
  exact hTM v (List.mem_of_getElem? hv)
/-- A text whose bytes are digits, signs, points and tildes has no white space (and no bar, where none of its bytes is one). -/
theorem no_space (s : ByteArray) (h : ∀ v ∈ s.data.toList, 33 ≤ v.toNat ∧ v.toNat ≠ 124) : ∀ j, j < s.size → ¬ isS (bt s (j : Int)) ∧ bt s (j : Int) ≠ 124 := by
  intro j hj
  obtain ⟨v, hv⟩ : ∃ v, s.data.toList[j]? = some v := ⟨s.data.toList[j]'(by rw [size_list]; exact hj), List.getElem?_eq_getElem _⟩
  rw [bt_some hv]
  have h1 := h v (List.mem_of_getElem? hv)
  unfold isS
  omega
theorem dec_mem (u : Nat) : ∀ v ∈ Lib.decDigits u, isM (v.toNat : Int) ∧ 33 ≤ v.toNat ∧ v.toNat ≠ 124 := by
  intro v hv
  obtain ⟨j, hj⟩ := List.getElem?_of_mem hv
  have h := (dd ⟨(Lib.decDigits u).toArray⟩ 0 u u (Nat.le_refl _) (fun j v h => by rw [Nat.zero_add]; exact bt_some h)).2.1 j (by rw [← Lib.decDigits_length u]; exact (List.getElem?_eq_some_iff.1 hj).1)
  rw [Nat.zero_add, bt_some (s := ⟨(Lib.decDigits u).toArray⟩) (v := v) hj] at h
  refine ⟨isD_M h, ?_⟩
  unfold isD at h
  omega
end Go.Proofs.YtlhijjfbcgconaaDoor.P


/- Ranges: what one constraint answers, for versions of three numbers. -/
set_option linter.unusedVariables false
set_option linter.unusedSimpArgs false
namespace Go.Proofs.YtlhijjfbcgconaaDoor.P
open Go.RowKit Go.Proofs.YtlhijjfbcgconaaDoorW.PrintWords Go.Proofs.YtlhijjfbcgconaaDoorW.PrintLast Go.Proofs.YtlhijjfbcgconaaDoorW.PrintMore

theorem cmp_nil (n1 n2 n3 m1 m2 m3 C : Int) : cmpV n1 n2 n3 m1 m2 m3 ⟨#[]⟩ ⟨#[]⟩ C = ord3 n1 n2 n3 m1 m2 m3 := by
  unfold cmpV
  by_cases h : ord3 n1 n2 n3 m1 m2 m3 = 0
  · rw [if_neg (fun q => q h), h]
    rfl
  · rw [if_pos h]
theorem ans_plain {ma oa mb ob orig : ByteArray} {a1 a2 a3 b1 b2 b3 : Int} {md dd pd : Bool} (w : World) (hE : TabsE w) : ∀ (W : World) (qv g q : Nat), Below w.heap.size w W → Mem W qv g q a1 a2 a3 b1 b2 b3 ⟨#[]⟩ ma oa ⟨#[]⟩ mb ob orig (opAt 1) md dd pd → qv ≠ q →
    Calls Tryd.prog 96 #[.pointer (some ⟨g, 0, none⟩), .pointer (some ⟨qv, 0, none⟩), .bool false] W fun e w' => (∃ er, e = .returned (.tuple #[.bool (if dd then tildeB (ord3 a1 a2 a3 b1 b2 b3) a1 a2 b1 b2 b3 md pd else ord3 a1 a2 a3 b1 b2 b3 == 0), er])) ∧ Below W.heap.size W w' := by
  intro W qv g q hW hm hne
  have hcmp : ∀ V, Below W.heap.size W V → Calls Tryd.prog 35 #[.pointer (some ⟨qv, 0, none⟩), .pointer (some ⟨q, 0, none⟩)] V fun e w' => e = .returned (.int .i64 (ord3 a1 a2 a3 b1 b2 b3)) ∧ Below V.heap.size V w' := fun V hV => by
    have h := compare_call qv q a1 a2 a3 b1 b2 b3 ⟨#[]⟩ ma oa ⟨#[]⟩ mb ob 0 V (hm.below hV).v (hm.below hV).c ((hE.below hW).below hV) (fun q => absurd q (by decide))
    rwa [cmp_nil] at h
  exact check_TildeOrEqual false W hm zzOp_1 (fun V hmV hV => teq_call false hne V hmV (.inl rfl) (fun U hU => hcmp U (hV.trans (hU.mono hV.size))))
end Go.Proofs.YtlhijjfbcgconaaDoor.P


/- Ranges: impl.SemverCompare of a text that is one constraint. -/
set_option linter.unusedVariables false
set_option linter.unusedSimpArgs false
namespace Go.Proofs.YtlhijjfbcgconaaDoor.P
open Go.RowKit Go.Proofs.YtlhijjfbcgconaaDoorW.PrintWords Go.Proofs.YtlhijjfbcgconaaDoorW.PrintLast Go.Proofs.YtlhijjfbcgconaaDoorW.PrintMore

theorem compare_one {s t ver : ByteArray} {K a : Nat} {m0 m1 m2 m3 : ByteArray} {i0 b1 b2 b3 b4 : Nat} {md dd pd : Bool} {x y z u x' y' z' u' : Nat} {n1 n2 n3 a1 a2 a3 : Int} {mt ma : ByteArray} {B : Bool}
    (hs : s.size ≤ 500) (hn : ∀ j, j < s.size → ¬ isS (bt s (j : Int)) ∧ bt s (j : Int) ≠ 124) (hA : At s 0 K a s.size) (hV : Ver s a s.size m0 m1 m2 m3 i0 b1 b2 b3 b4) (hD : Dirt s a s.size m0 m1 m2 m3 ver md dd pd)
    (hF : Form ver x y z u n1 n2 n3 ⟨#[]⟩ mt) (ht : Form t x' y' z' u' a1 a2 a3 ⟨#[]⟩ ma) (w : World)
    (hck : ∀ (W : World) (qv g q : Nat), Below w.heap.size w W → Mem W qv g q a1 a2 a3 n1 n2 n3 ⟨#[]⟩ ma t ⟨#[]⟩ mt ver (s.extract a s.size) (opAt K) md dd pd → qv ≠ q → Calls Tryd.prog 96 #[.pointer (some ⟨g, 0, none⟩), .pointer (some ⟨qv, 0, none⟩), .bool false] W fun e w' => (∃ er, e = .returned (.tuple #[.bool B, er])) ∧ Below W.heap.size W w') :
    Calls Tryd.prog 24 #[.string s, .string t] w fun e w' => e = .returned (.tuple #[.bool B, .bool true]) ∧ Below w.heap.size w w' := by
  have h0 : Ev (fun k => semver_zzSpace.f k s ((0 : Nat) : Int)) ((0 : Nat) : Int) := space_none s (by omega) 0 (Nat.zero_le _) (fun h => (hn 0 h).1)
  have he : Ev (fun k => semver_zzSpace.f k s (s.size : Int)) (s.size : Int) := space_none s (by omega) s.size (Nat.le_refl _) (fun h => absurd h (Nat.lt_irrefl _))
  have hex : s.extract 0 s.size = s := by
    apply ba_ext
    rw [ByteArray.data_extract]
    show (s.data.extract 0 s.data.size).toList = _
    rw [Array.extract_size]
  have hF2 : Finds s 0 [s] := by
    have h := Finds.take (l := []) hA.lo.1 hA Finds.stop
    rwa [hex] at h
  exact implCompare_of w (sprigCompare_of w (semCompare_one (hp := false) (fun W => new_one (hp := false) hs hn (by decide +kernel) (fun V => valid_call (by omega) h0 (.last hA he) V) (fun V => find_call (by omega) (by show 1 ≤ 1000; decide) hF2 V) (fun V => parseC_call (by omega) h0 hA hV he hD hF V) W) ht w hck))
end Go.Proofs.YtlhijjfbcgconaaDoor.P


/- Ranges: the parts of a version as a constraint has them. -/
set_option linter.unusedVariables false
set_option linter.unusedSimpArgs false
namespace Go.Proofs.YtlhijjfbcgconaaDoor.P
open Go.RowKit Go.Proofs.YtlhijjfbcgconaaDoorW.PrintWords Go.Proofs.YtlhijjfbcgconaaDoorW.PrintLast Go.Proofs.YtlhijjfbcgconaaDoorW.PrintMore

theorem trimDot_dot (T : List UInt8) (m : ByteArray) (h : m.data.toList = 46 :: T) : (trimDot m).data.toList = T := by
  unfold trimDot Lib.trimPrefix
  rw [h]
  simp [Lib.hasPrefix]
theorem isXb_list (m : ByteArray) : isXb m = (m.data.toList == [120] || m.data.toList == [42] || m.data.toList == [88]) := by
  unfold isXb
  rw [ByteArray.toList_eq]
theorem isXb_dec (u : Nat) (m : ByteArray) (h : m.data.toList = Lib.decDigits u) : isXb m = false := by
  rw [isXb_list, h]
  have hd : ∀ v ∈ Lib.decDigits u, isD (v.toNat : Int) := by
    intro v hv
    obtain ⟨j, hj⟩ := List.getElem?_of_mem hv
    have h := (dd ⟨(Lib.decDigits u).toArray⟩ 0 u u (Nat.le_refl _) (fun j v h => by rw [Nat.zero_add]; exact bt_some h)).2.1 j (by rw [← Lib.decDigits_length u]; exact (List.getElem?_eq_some_iff.1 hj).1)
    rwa [Nat.zero_add, bt_some (s := ⟨(Lib.decDigits u).toArray⟩) (v := v) hj] at h
  have hn : ∀ c : UInt8, ¬ isD (c.toNat : Int) → (Lib.decDigits u == [c]) = false := fun c hc => beq_eq_false_iff_ne.2 (fun q => hc (hd c (by rw [q]; exact List.mem_singleton.2 rfl)))
  rw [hn 120 (by unfold isD; decide), hn 42 (by unfold isD; decide), hn 88 (by unfold isD; decide)]
  rfl
theorem isXb_sign (c : UInt8) (hc : c = 120 ∨ c = 88 ∨ c = 42) (m : ByteArray) (h : m.data.toList = [c]) : isXb m = true := by
  rw [isXb_list, h]
  rcases hc with rfl | rfl | rfl <;> decide
theorem size_ne {m : ByteArray} {l : List UInt8} (h : m.data.toList = l) (hl : l.length ≠ 0) : m.size ≠ 0 := by rw [← size_list, h]; exact hl
theorem dec_ne (u : Nat) : (Lib.decDigits u).length ≠ 0 := by rw [Lib.decDigits_length]; have := Lib.nDigits_pos u; omega
theorem dec0 : Lib.decDigits 0 = [48] := by rw [Lib.decDigits_one (by decide)]; rfl
theorem dirt_patch {s : ByteArray} {x e a b : Nat} {m0 m1 m2 : ByteArray} (h0 : m0.data.toList = Lib.decDigits a) (h1 : m1.data.toList = 46 :: Lib.decDigits b) (h2 : m2 = ⟨#[]⟩ ∨ ∃ c : UInt8, (c = 120 ∨ c = 88 ∨ c = 42) ∧ m2.data.toList = [46, c]) : Dirt s x e m0 m1 m2 ⟨#[]⟩ (verT a b 0) false true true := by
  have h := Dirt.patch (s := s) (a := x) (e := e) (m3 := ⟨#[]⟩) (isXb_dec a _ h0) (size_ne h0 (dec_ne a)) (isXb_dec b _ (trimDot_dot _ _ h1)) (size_ne h1 (by simp)) (m2 := m2) (by
    rcases h2 with h2 | ⟨c, hc, h2⟩
    · exact .inr h2
    · exact .inl (isXb_sign c hc _ (trimDot_dot _ _ h2)))
  rwa [show m0 ++ m1 ++ ⟨#[46, 48]⟩ ++ ⟨#[]⟩ = verT a b 0 from ba_ext (by rw [verT_list, dec0]; simp [append_list, h0, h1])] at h
theorem dirt_minor {s : ByteArray} {x e a : Nat} {m0 m1 m2 : ByteArray} (h0 : m0.data.toList = Lib.decDigits a) (h1 : m1 = ⟨#[]⟩ ∨ ∃ c : UInt8, (c = 120 ∨ c = 88 ∨ c = 42) ∧ m1.data.toList = [46, c]) : Dirt s x e m0 m1 m2 ⟨#[]⟩ (verT a 0 0) true true false := by
  have h := Dirt.minor (s := s) (a := x) (e := e) (m2 := m2) (m3 := ⟨#[]⟩) (isXb_dec a _ h0) (size_ne h0 (dec_ne a)) (m1 := m1) (by
    rcases h1 with h1 | ⟨c, hc, h1⟩
    · exact .inr h1
    · exact .inl (isXb_sign c hc _ (trimDot_dot _ _ h1)))
  rwa [show m0 ++ ⟨#[46, 48, 46, 48]⟩ ++ ⟨#[]⟩ = verT a 0 0 from ba_ext (by rw [verT_list, dec0]; simp [append_list, h0])] at h
theorem dirt_any {s : ByteArray} {x e : Nat} {m0 m1 m2 : ByteArray} {c : UInt8} (hc : c = 120 ∨ c = 88 ∨ c = 42) (h0 : m0.data.toList = [c]) : Dirt s x e m0 m1 m2 ⟨#[]⟩ (verT 0 0 0) false true false := by
  have h := Dirt.any (s := s) (a := x) (e := e) (m1 := m1) (m2 := m2) (m3 := ⟨#[]⟩) (isXb_sign c hc _ h0)
  rwa [show (⟨#[48, 46, 48, 46, 48]⟩ : ByteArray) ++ ⟨#[]⟩ = verT 0 0 0 from ba_ext (by rw [verT_list, dec0]; decide +kernel)] at h
end Go.Proofs.YtlhijjfbcgconaaDoor.P


/- Ranges: what the texts of the laws answer. -/
set_option linter.unusedVariables false
set_option linter.unusedSimpArgs false
namespace Go.Proofs.YtlhijjfbcgconaaDoor.P
open Go.RowKit Go.Proofs.YtlhijjfbcgconaaDoorW.PrintWords Go.Proofs.YtlhijjfbcgconaaDoorW.PrintLast Go.Proofs.YtlhijjfbcgconaaDoorW.PrintMore

/-- A part of a text, as a list. -/
theorem part_list (s : ByteArray) (A B C : List UInt8) (h : s.data.toList = A ++ (B ++ C)) : (s.extract A.length (A.length + B.length)).data.toList = B := by
  rw [ByteArray.data_extract, Array.toList_extract, h, List.extract_eq_take_drop]
  simp
theorem part_end (s : ByteArray) (A B : List UInt8) (h : s.data.toList = A ++ B) : (s.extract A.length s.size).data.toList = B := by
  have hz : s.size = A.length + B.length := by rw [← size_list, h, List.length_append]
  have := part_list s A B [] (by rw [h, List.append_nil])
  rwa [← hz] at this
end Go.Proofs.YtlhijjfbcgconaaDoor.P


/- Ranges: the short texts with a tilde. -/
set_option linter.unusedVariables false
set_option linter.unusedSimpArgs false
namespace Go.Proofs.YtlhijjfbcgconaaDoor.P
open Go.RowKit Go.Proofs.YtlhijjfbcgconaaDoorW.PrintWords Go.Proofs.YtlhijjfbcgconaaDoorW.PrintLast Go.Proofs.YtlhijjfbcgconaaDoorW.PrintMore

end Go.Proofs.YtlhijjfbcgconaaDoor.P


/- Ranges: the texts with a sign for any number. -/
set_option linter.unusedVariables false
set_option linter.unusedSimpArgs false
namespace Go.Proofs.YtlhijjfbcgconaaDoor.P
open Go.RowKit Go.Proofs.YtlhijjfbcgconaaDoorW.PrintWords Go.Proofs.YtlhijjfbcgconaaDoorW.PrintLast Go.Proofs.YtlhijjfbcgconaaDoorW.PrintMore

theorem sign_M {c : UInt8} (hc : c = 120 ∨ c = 88 ∨ c = 42) : isM (c.toNat : Int) ∧ 33 ≤ c.toNat ∧ c.toNat ≠ 124 := by
  rcases hc with rfl | rfl | rfl <;> exact ⟨by decide, by decide, by decide⟩
/-- * -/
theorem cmp_star (s : ByteArray) (c : UInt8) (hc : c = 120 ∨ c = 88 ∨ c = 42) (v1 v2 v3 : Nat) (h1 : v1 < 1000) (h2 : v2 < 1000) (h3 : v3 < 1000) (hl : s.data.toList = [c]) (w : World) (hE : TabsE w) :
    Calls Tryd.prog 24 #[.string s, .string (verT v1 v2 v3)] w fun e w' => e = .returned (.tuple #[.bool (tildeB (ord3 v1 v2 v3 (0 : Nat) (0 : Nat) (0 : Nat)) v1 v2 (0 : Nat) (0 : Nat) (0 : Nat) false false), .bool true]) ∧ Below w.heap.size w w' := by
  have hz : s.size = 1 := by rw [← size_list, hl]; rfl
  have hV := text1 s (by omega) [] [c] (Nat.succ_pos 0) (fun v hv => by rw [List.mem_singleton.1 hv]; exact (sign_M hc).1) hl
  have m0 : (s.extract 0 s.size).data.toList = [c] := part_end s [] [c] hl
  have hD := dirt_any (s := s) (x := 0) (e := s.size) (m1 := ⟨#[]⟩) (m2 := ⟨#[]⟩) hc m0
  obtain ⟨x, y, z, hF⟩ := verT_form 0 0 0 (by decide) (by decide) (by decide)
  obtain ⟨x', y', z', hT⟩ := verT_form v1 v2 v3 (by omega) (by omega) (by omega)
  have b0 : isM (bt s 0) := by rw [show bt s 0 = (c.toNat : Int) from bt_some (j := 0) (by rw [hl]; rfl)]; exact (sign_M hc).1
  have hA := at_plain (by omega) (by omega) b0 ⟨_, _, _, _, _, _, _, _, _, hV⟩
  have h := compare_one (by omega) (no_space s (fun v hv => by rw [hl] at hv; rw [List.mem_singleton.1 hv]; exact (sign_M hc).2)) hA hV hD hF hT w (ans_plain w hE)
  exact h
/-- 1.x -/
theorem cmp_plain1x (s : ByteArray) (c : UInt8) (hc : c = 120 ∨ c = 88 ∨ c = 42) (a v1 v2 v3 : Nat) (ha : a < 1000) (h1 : v1 < 1000) (h2 : v2 < 1000) (h3 : v3 < 1000) (hl : s.data.toList = Lib.decDigits a ++ [46, c]) (w : World) (hE : TabsE w) :
    Calls Tryd.prog 24 #[.string s, .string (verT v1 v2 v3)] w fun e w' => e = .returned (.tuple #[.bool (tildeB (ord3 v1 v2 v3 a (0 : Nat) (0 : Nat)) v1 v2 a (0 : Nat) (0 : Nat) true false), .bool true]) ∧ Below w.heap.size w w' := by
  have na := nd_le 14 a (by omega)
  have pa := Lib.nDigits_pos a
  have ea := Lib.decDigits_length a
  have hz : s.size = Lib.nDigits a + 2 := by
    rw [← size_list, hl]
    simp only [List.length_append, List.length_cons, List.length_nil, ea]
  obtain ⟨p, l1, l2, rp, hV⟩ := text2 s (by omega) [] a [c] (Nat.succ_pos 0) (fun v hv => by rw [List.mem_singleton.1 hv]; exact (sign_M hc).1) hl
  have hl1 : ([] : List UInt8).length = 0 := rfl
  rw [hl1] at hV rp l1
  rw [Nat.zero_add] at rp
  have m0 : (s.extract 0 p).data.toList = Lib.decDigits a := by
    have h := part_list s [] (Lib.decDigits a) [46, c] hl
    rw [hl1, ea, Nat.zero_add] at h
    rw [rp]
    exact h
  have m1 : (s.extract p s.size).data.toList = [46, c] := by
    have h := part_end s (Lib.decDigits a) [46, c] hl
    rw [ea] at h
    rw [rp]
    exact h
  have hD := dirt_minor (s := s) (x := 0) (e := s.size) (m2 := ⟨#[]⟩) m0 (.inr ⟨c, hc, m1⟩)
  obtain ⟨x, y, z, hF⟩ := verT_form a 0 0 (by omega) (by omega) (by omega)
  obtain ⟨x', y', z', hT⟩ := verT_form v1 v2 v3 (by omega) (by omega) (by omega)
  have b0 : isM (bt s 0) := (pos1 s [] a [46, c] hl).1 0 (Nat.le_refl 0) (by rw [hl1]; omega)
  have hA := at_plain (by omega) (by omega) b0 ⟨_, _, _, _, _, _, _, _, _, hV⟩
  have h := compare_one (by omega) (no_space s (fun v hv => by
    rw [hl] at hv
    rcases List.mem_append.1 hv with h | h
    · exact (dec_mem a v h).2
    · rcases List.mem_cons.1 h with h | h
      · subst h; decide
      · rw [List.mem_singleton.1 h]; exact (sign_M hc).2)) hA hV hD hF hT w (ans_plain w hE)
  exact h
/-- 1.2.x -/
theorem cmp_plain2x (s : ByteArray) (c : UInt8) (hc : c = 120 ∨ c = 88 ∨ c = 42) (a b v1 v2 v3 : Nat) (ha : a < 1000) (hb : b < 1000) (h1 : v1 < 1000) (h2 : v2 < 1000) (h3 : v3 < 1000) (hl : s.data.toList = Lib.decDigits a ++ (46 :: (Lib.decDigits b ++ [46, c]))) (w : World) (hE : TabsE w) :
    Calls Tryd.prog 24 #[.string s, .string (verT v1 v2 v3)] w fun e w' => e = .returned (.tuple #[.bool (tildeB (ord3 v1 v2 v3 a b (0 : Nat)) v1 v2 a b (0 : Nat) false true), .bool true]) ∧ Below w.heap.size w w' := by
  have na := nd_le 14 a (by omega)
  have nb := nd_le 14 b (by omega)
  have pa := Lib.nDigits_pos a
  have ea := Lib.decDigits_length a
  have eb := Lib.decDigits_length b
  have hz : s.size = Lib.nDigits a + (Lib.nDigits b + 3) := by
    rw [← size_list, hl]
    simp only [List.length_append, List.length_cons, List.length_nil, ea, eb]
  obtain ⟨p, q, l1, l2, l3, rp, rq, hV⟩ := text3 s (by omega) [] a b [c] (Nat.succ_pos 0) (fun v hv => by rw [List.mem_singleton.1 hv]; exact (sign_M hc).1) hl
  have hl1 : ([] : List UInt8).length = 0 := rfl
  rw [hl1] at hV rp rq l1
  rw [Nat.zero_add] at rp rq
  have m0 : (s.extract 0 p).data.toList = Lib.decDigits a := by
    have h := part_list s [] (Lib.decDigits a) _ hl
    rw [hl1, ea, Nat.zero_add] at h
    rw [rp]
    exact h
  have m1 : (s.extract p q).data.toList = 46 :: Lib.decDigits b := by
    have h := part_list s (Lib.decDigits a) (46 :: Lib.decDigits b) [46, c] (by rw [hl]; simp)
    rw [List.length_cons, ea, eb] at h
    rw [rp, rq, show Lib.nDigits a + 1 + Lib.nDigits b = Lib.nDigits a + (Lib.nDigits b + 1) by omega]
    exact h
  have m2 : (s.extract q s.size).data.toList = [46, c] := by
    have h := part_end s (Lib.decDigits a ++ (46 :: Lib.decDigits b)) [46, c] (by rw [hl]; simp)
    rw [List.length_append, List.length_cons, ea, eb] at h
    rw [rq, show Lib.nDigits a + 1 + Lib.nDigits b = Lib.nDigits a + (Lib.nDigits b + 1) by omega]
    exact h
  have hD := dirt_patch (s := s) (x := 0) (e := s.size) m0 m1 (.inr ⟨c, hc, m2⟩)
  obtain ⟨x, y, z, hF⟩ := verT_form a b 0 (by omega) (by omega) (by omega)
  obtain ⟨x', y', z', hT⟩ := verT_form v1 v2 v3 (by omega) (by omega) (by omega)
  have b0 : isM (bt s 0) := (pos1 s [] a _ hl).1 0 (Nat.le_refl 0) (by rw [hl1]; omega)
  have hA := at_plain (by omega) (by omega) b0 ⟨_, _, _, _, _, _, _, _, _, hV⟩
  have h := compare_one (by omega) (no_space s (fun v hv => by
    rw [hl] at hv
    rcases List.mem_append.1 hv with h | h
    · exact (dec_mem a v h).2
    · rcases List.mem_cons.1 h with h | h
      · subst h; decide
      · rcases List.mem_append.1 h with h | h
        · exact (dec_mem b v h).2
        · rcases List.mem_cons.1 h with h | h
          · subst h; decide
          · rw [List.mem_singleton.1 h]; exact (sign_M hc).2)) hA hV hD hF hT w (ans_plain w hE)
  exact h
end Go.Proofs.YtlhijjfbcgconaaDoor.P


/- Ranges: laws.ranged of each text of the laws. -/
set_option linter.unusedVariables false
set_option linter.unusedSimpArgs false
namespace Go.Proofs.YtlhijjfbcgconaaDoor.P
open Go.RowKit Go.Proofs.YtlhijjfbcgconaaDoorW.PrintWords Go.Proofs.YtlhijjfbcgconaaDoorW.PrintLast Go.Proofs.YtlhijjfbcgconaaDoorW.PrintMore

theorem text_call (v1 v2 v3 : Nat) (h1 : v1 < 1000) (h2 : v2 < 1000) (h3 : v3 < 1000) (W : World) : Calls Tryd.prog 20 #[.agg #[.int .u64 (v1 : Int), .int .u64 (v2 : Int), .int .u64 (v3 : Int), .string ⟨#[]⟩, .string ⟨#[]⟩]] W fun e w' => e = .returned (.string (verT v1 v2 v3)) ∧ Below W.heap.size W w' :=
  spec_TextOf.calls 15 _ _ _ _ _ _ W (textOf_f v1 v2 v3 (by omega) (by omega) (by omega))
set_option maxHeartbeats 3200000 in
set_option maxRecDepth 100000 in
theorem rg_plain2x (s : ByteArray) (c : UInt8) (hc : c = 120 ∨ c = 88 ∨ c = 42) (a b : Nat) (ha : a < 1000) (hb : b < 1000) (v1 v2 v3 : Nat) (h1 : v1 < 1000) (h2 : v2 < 1000) (h3 : v3 < 1000) (hl : s.data.toList = Lib.decDigits a ++ (46 :: (Lib.decDigits b ++ [46, c]))) (w : World) (hE : TabsE w) :
    Calls Tryd.prog 23 #[.string s, .agg #[.int .u64 (v1 : Int), .int .u64 (v2 : Int), .int .u64 (v3 : Int), .string ⟨#[]⟩, .string ⟨#[]⟩], .agg #[.int .u64 (a : Int), .int .u64 (b : Int), .int .u64 0, .string ⟨#[]⟩, .string ⟨#[]⟩], .agg #[.int .u64 (a : Int), .int .u64 ((b : Int) + 1), .int .u64 0, .string ⟨#[]⟩, .string ⟨#[]⟩]] w fun e w' => e = .returned (.bool true) ∧ Below w.heap.size w w' :=
  ranged_call _ _ _ _ _ _ _ _ _ w (text_call v1 v2 v3 h1 h2 h3) (fun W hW => cmp_plain2x s c hc a b v1 v2 v3 ha hb h1 h2 h3 hl W (hE.below hW)) (tilde_minor v1 v2 v3 a b 0 true (by omega) (by omega) (.inr rfl))
set_option maxHeartbeats 3200000 in
set_option maxRecDepth 100000 in
theorem rg_plain1x (s : ByteArray) (c : UInt8) (hc : c = 120 ∨ c = 88 ∨ c = 42) (a : Nat) (ha : a < 1000) (v1 v2 v3 : Nat) (h1 : v1 < 1000) (h2 : v2 < 1000) (h3 : v3 < 1000) (hl : s.data.toList = Lib.decDigits a ++ [46, c]) (w : World) (hE : TabsE w) :
    Calls Tryd.prog 23 #[.string s, .agg #[.int .u64 (v1 : Int), .int .u64 (v2 : Int), .int .u64 (v3 : Int), .string ⟨#[]⟩, .string ⟨#[]⟩], .agg #[.int .u64 (a : Int), .int .u64 0, .int .u64 0, .string ⟨#[]⟩, .string ⟨#[]⟩], .agg #[.int .u64 ((a : Int) + 1), .int .u64 0, .int .u64 0, .string ⟨#[]⟩, .string ⟨#[]⟩]] w fun e w' => e = .returned (.bool true) ∧ Below w.heap.size w w' :=
  ranged_call _ _ _ _ _ _ _ _ _ w (text_call v1 v2 v3 h1 h2 h3) (fun W hW => cmp_plain1x s c hc a v1 v2 v3 ha h1 h2 h3 hl W (hE.below hW)) (tilde_major v1 v2 v3 a false (by omega) (by omega) (by omega))
set_option maxHeartbeats 3200000 in
set_option maxRecDepth 100000 in
theorem rg_star (s : ByteArray) (c : UInt8) (hc : c = 120 ∨ c = 88 ∨ c = 42)  (v1 v2 v3 : Nat) (h1 : v1 < 1000) (h2 : v2 < 1000) (h3 : v3 < 1000) (hl : s.data.toList = [c]) (w : World) (hE : TabsE w) :
    Calls Tryd.prog 23 #[.string s, .agg #[.int .u64 (v1 : Int), .int .u64 (v2 : Int), .int .u64 (v3 : Int), .string ⟨#[]⟩, .string ⟨#[]⟩], .agg #[.int .u64 0, .int .u64 0, .int .u64 0, .string ⟨#[]⟩, .string ⟨#[]⟩], .agg #[.int .u64 0, .int .u64 0, .int .u64 0, .string ⟨#[]⟩, .string ⟨#[]⟩]] w fun e w' => e = .returned (.bool true) ∧ Below w.heap.size w w' :=
  ranged_call _ _ _ _ _ _ _ _ _ w (text_call v1 v2 v3 h1 h2 h3) (fun W hW => cmp_star s c hc v1 v2 v3 h1 h2 h3 hl W (hE.below hW)) (tilde_any v1 v2 v3)
end Go.Proofs.YtlhijjfbcgconaaDoor.P

