/- Texts joined: Rg15, Rg16, Rg17, Rg18, Rg19, Rg20, Rg21, Rg22, Rg23, Rg24, Rg25. -/
import Derived.Test.YtlhijjfbcgconaaDoorZRgA
import Derived.Test.YtlhijjfbcgconaaDoorZSv
import Derived.Test.YtlhijjfbcgconaaDoorZRgC
import Derived.Test.YtlhijjfbcgconaaDoorZSnM

/- Ranges: versions of three, two and one numbers as constraints. -/
set_option linter.unusedVariables false
set_option linter.unusedSimpArgs false
namespace Go.Proofs.YtlhijjfbcgconaaDoor.P
open Go.RowKit Go.Proofs.YtlhijjfbcgconaaDoorW.PrintWords Go.Proofs.YtlhijjfbcgconaaDoorW.PrintLast Go.Proofs.YtlhijjfbcgconaaDoorW.PrintMore

theorem isM_v {x : Int} (h : isM x) : x ≠ 118 ∧ x ≠ 46 ∧ x ≠ 126 := by
  unfold isM at h
  omega
theorem v0_at {s : ByteArray} {a : Nat} (ha : a < s.size) (h : isM (bt s (a : Int))) : V0 s a a := .inl ⟨rfl, .inr ⟨ha, (isM_v h).1⟩⟩
theorem fails_first {s : ByteArray} {i : Nat} {o : ByteArray} {b : Int} (ho : 0 < o.size) (hb : bt o 0 = b) (h : i < s.size → bt s (i : Int) ≠ b) : Fails s i o := by
  by_cases c : i + o.size ≤ s.size
  · refine .other c (fun he => h (by omega) ?_)
    have h2 := bt_ext s i (i + o.size) 0 (by omega)
    rw [he, Nat.add_zero] at h2
    rw [← h2]
    exact hb
  · exact .short (by omega)
theorem space_none (s : ByteArray) (hs : s.size ≤ 1000) (i : Nat) (hi : i ≤ s.size) (h : i < s.size → ¬ isS (bt s (i : Int))) : Ev (fun k => semver_zzSpace.f k s (i : Int)) (i : Int) :=
  space_f s (by omega) i i (Nat.le_refl _) hi (if c : i = s.size then .inl c else .inr (h (by omega))) (fun j h1 h2 => absurd h2 (by omega))
end Go.Proofs.YtlhijjfbcgconaaDoor.P


/- Ranges: what the tilde answers is what lies within (plain law). -/
set_option linter.unusedVariables false
set_option linter.unusedSimpArgs false
namespace Go.Proofs.YtlhijjfbcgconaaDoor.P
open Go.RowKit Go.Proofs.YtlhijjfbcgconaaDoorW.PrintWords Go.Proofs.YtlhijjfbcgconaaDoorW.PrintLast Go.Proofs.YtlhijjfbcgconaaDoorW.PrintMore

end Go.Proofs.YtlhijjfbcgconaaDoor.P


/- Ranges: where the numbers of a text lie. -/
set_option linter.unusedVariables false
set_option linter.unusedSimpArgs false
namespace Go.Proofs.YtlhijjfbcgconaaDoor.P
open Go.RowKit Go.Proofs.YtlhijjfbcgconaaDoorW.PrintWords Go.Proofs.YtlhijjfbcgconaaDoorW.PrintLast Go.Proofs.YtlhijjfbcgconaaDoorW.PrintMore

theorem isD_M {x : Int} (h : isD x) : isM x := .inl h
theorem dgM (s : ByteArray) (x u : Nat) (h : ∀ (j : Nat) (v : UInt8), (Lib.decDigits u)[j]? = some v → bt s ((x + j : Nat) : Int) = (v.toNat : Int)) : ∀ j, x ≤ j → j < x + Lib.nDigits u → isM (bt s (j : Int)) := by
  intro j h1 h2
  have := (dd s x u u (Nat.le_refl _) h).2.1 (j - x) (by omega)
  rw [show x + (j - x) = j by omega] at this
  exact isD_M this
/-- A number behind a beginning. -/
theorem pos1 (s : ByteArray) (pre : List UInt8) (a : Nat) (T : List UInt8) (hl : s.data.toList = pre ++ (Lib.decDigits a ++ T)) :
    (∀ j, pre.length ≤ j → j < pre.length + Lib.nDigits a → isM (bt s (j : Int))) ∧ s.size = pre.length + Lib.nDigits a + T.length := by
  have ea := Lib.decDigits_length a
  refine ⟨dgM s pre.length a (fun j v hj => bt_some ?_), ?_⟩
  · rw [hl, List.getElem?_append_right (by omega), show pre.length + j - pre.length = j by omega, List.getElem?_append_left (List.getElem?_eq_some_iff.1 hj).1]
    exact hj
  · rw [← size_list, hl]
    simp only [List.length_append, ea]
    omega
/-- Two numbers with a point between. -/
theorem pos2 (s : ByteArray) (pre : List UInt8) (a b : Nat) (T : List UInt8) (hl : s.data.toList = pre ++ (Lib.decDigits a ++ (46 :: (Lib.decDigits b ++ T)))) :
    (∀ j, pre.length ≤ j → j < pre.length + Lib.nDigits a → isM (bt s (j : Int))) ∧ bt s ((pre.length + Lib.nDigits a : Nat) : Int) = 46 ∧ (∀ j, pre.length + Lib.nDigits a + 1 ≤ j → j < pre.length + Lib.nDigits a + 1 + Lib.nDigits b → isM (bt s (j : Int))) ∧ s.size = pre.length + Lib.nDigits a + 1 + Lib.nDigits b + T.length := by
  have ea := Lib.decDigits_length a
  obtain ⟨h1, h2⟩ := pos1 s pre a _ hl
  have h3 := pos1 s (pre ++ (Lib.decDigits a ++ [46])) b T (by rw [hl]; simp)
  have hz : (pre ++ (Lib.decDigits a ++ [46])).length = pre.length + Lib.nDigits a + 1 := by
    simp only [List.length_append, ea, List.length_singleton]
    omega
  rw [hz] at h3
  refine ⟨h1, bt_some (v := 46) ?_, h3.1, h3.2⟩
  rw [hl, List.getElem?_append_right (by omega), show pre.length + Lib.nDigits a - pre.length = Lib.nDigits a by omega, List.getElem?_append_right (by omega), ea, Nat.sub_self]
  rfl
end Go.Proofs.YtlhijjfbcgconaaDoor.P


/- Ranges: texts of two numbers and of one; no white space, no bar. -/
set_option linter.unusedVariables false
set_option linter.unusedSimpArgs false
namespace Go.Proofs.YtlhijjfbcgconaaDoor.P
open Go.RowKit Go.Proofs.YtlhijjfbcgconaaDoorW.PrintWords Go.Proofs.YtlhijjfbcgconaaDoorW.PrintLast Go.Proofs.YtlhijjfbcgconaaDoorW.PrintMore

theorem dec_mem (u : Nat) : ∀ v ∈ Lib.decDigits u, isM (v.toNat : Int) ∧ 33 ≤ v.toNat ∧ v.toNat ≠ 124 := by
  intro v hv
  obtain ⟨j, hj⟩ := List.getElem?_of_mem hv
  have h := (dd ⟨(Lib.decDigits u).toArray⟩ 0 u u (Nat.le_refl _) (fun j v h => by rw [Nat.zero_add]; exact bt_some h)).2.1 j (by rw [← Lib.decDigits_length u]; exact (List.getElem?_eq_some_iff.1 hj).1)
  rw [Nat.zero_add, bt_some (s := ⟨(Lib.decDigits u).toArray⟩) (v := v) hj] at h
  refine ⟨isD_M h, ?_⟩
  unfold isD at h
  omega
end Go.Proofs.YtlhijjfbcgconaaDoor.P


/- Ranges: what one constraint answers, for versions of three numbers. -/
set_option linter.unusedVariables false
set_option linter.unusedSimpArgs false
namespace Go.Proofs.YtlhijjfbcgconaaDoor.P
open Go.RowKit Go.Proofs.YtlhijjfbcgconaaDoorW.PrintWords Go.Proofs.YtlhijjfbcgconaaDoorW.PrintLast Go.Proofs.YtlhijjfbcgconaaDoorW.PrintMore

theorem cmp_nil (n1 n2 n3 m1 m2 m3 C : Int) : cmpV n1 n2 n3 m1 m2 m3 ⟨#[]⟩ ⟨#[]⟩ C = ord3 n1 n2 n3 m1 m2 m3 := by
  unfold cmpV
  by_cases h : ord3 n1 n2 n3 m1 m2 m3 = 0
  · rw [if_neg (fun q => q h), h]
    rfl
  · rw [if_pos h]
end Go.Proofs.YtlhijjfbcgconaaDoor.P


/- Ranges: impl.SemverCompare of a text that is one constraint. -/
set_option linter.unusedVariables false
set_option linter.unusedSimpArgs false
namespace Go.Proofs.YtlhijjfbcgconaaDoor.P
open Go.RowKit Go.Proofs.YtlhijjfbcgconaaDoorW.PrintWords Go.Proofs.YtlhijjfbcgconaaDoorW.PrintLast Go.Proofs.YtlhijjfbcgconaaDoorW.PrintMore

end Go.Proofs.YtlhijjfbcgconaaDoor.P


/- Ranges: the parts of a version as a constraint has them. -/
set_option linter.unusedVariables false
set_option linter.unusedSimpArgs false
namespace Go.Proofs.YtlhijjfbcgconaaDoor.P
open Go.RowKit Go.Proofs.YtlhijjfbcgconaaDoorW.PrintWords Go.Proofs.YtlhijjfbcgconaaDoorW.PrintLast Go.Proofs.YtlhijjfbcgconaaDoorW.PrintMore

theorem trimDot_dot (T : List UInt8) (m : ByteArray) (h : m.data.toList = 46 :: T) : (trimDot m).data.toList = T := by
  unfold trimDot Lib.trimPrefix
  rw [h]
  simp [Lib.hasPrefix]
theorem isXb_list (m : ByteArray) : isXb m = (m.data.toList == [120] || m.data.toList == [42] || m.data.toList == [88]) := by
  unfold isXb
  rw [ByteArray.toList_eq]
theorem isXb_dec (u : Nat) (m : ByteArray) (h : m.data.toList = Lib.decDigits u) : isXb m = false := by
  rw [isXb_list, h]
  have hd : ∀ v ∈ Lib.decDigits u, isD (v.toNat : Int) := by
    intro v hv
    obtain ⟨j, hj⟩ := List.getElem?_of_mem hv
    have h := (dd ⟨(Lib.decDigits u).toArray⟩ 0 u u (Nat.le_refl _) (fun j v h => by rw [Nat.zero_add]; exact bt_some h)).2.1 j (by rw [← Lib.decDigits_length u]; exact (List.getElem?_eq_some_iff.1 hj).1)
    rwa [Nat.zero_add, bt_some (s := ⟨(Lib.decDigits u).toArray⟩) (v := v) hj] at h
  have hn : ∀ c : UInt8, ¬ isD (c.toNat : Int) → (Lib.decDigits u == [c]) = false := fun c hc => beq_eq_false_iff_ne.2 (fun q => hc (hd c (by rw [q]; exact List.mem_singleton.2 rfl)))
  rw [hn 120 (by unfold isD; decide), hn 42 (by unfold isD; decide), hn 88 (by unfold isD; decide)]
  rfl
theorem size_ne {m : ByteArray} {l : List UInt8} (h : m.data.toList = l) (hl : l.length ≠ 0) : m.size ≠ 0 := by rw [← size_list, h]; exact hl
theorem dec_ne (u : Nat) : (Lib.decDigits u).length ≠ 0 := by rw [Lib.decDigits_length]; have := Lib.nDigits_pos u; omega
theorem dirt_full {s : ByteArray} {x e a b c : Nat} {m0 m1 m2 : ByteArray} (h0 : m0.data.toList = Lib.decDigits a) (h1 : m1.data.toList = 46 :: Lib.decDigits b) (h2 : m2.data.toList = 46 :: Lib.decDigits c) : Dirt s x e m0 m1 m2 ⟨#[]⟩ (s.extract x e) false false false :=
  .full (isXb_dec a _ h0) (size_ne h0 (dec_ne a)) (isXb_dec b _ (trimDot_dot _ _ h1)) (size_ne h1 (by simp)) (isXb_dec c _ (trimDot_dot _ _ h2)) (size_ne h2 (by simp))
end Go.Proofs.YtlhijjfbcgconaaDoor.P


/- Ranges: what the texts of the laws answer. -/
set_option linter.unusedVariables false
set_option linter.unusedSimpArgs false
namespace Go.Proofs.YtlhijjfbcgconaaDoor.P
open Go.RowKit Go.Proofs.YtlhijjfbcgconaaDoorW.PrintWords Go.Proofs.YtlhijjfbcgconaaDoorW.PrintLast Go.Proofs.YtlhijjfbcgconaaDoorW.PrintMore

/-- A part of a text, as a list. -/
theorem part_list (s : ByteArray) (A B C : List UInt8) (h : s.data.toList = A ++ (B ++ C)) : (s.extract A.length (A.length + B.length)).data.toList = B := by
  rw [ByteArray.data_extract, Array.toList_extract, h, List.extract_eq_take_drop]
  simp
theorem part_end (s : ByteArray) (A B : List UInt8) (h : s.data.toList = A ++ B) : (s.extract A.length s.size).data.toList = B := by
  have hz : s.size = A.length + B.length := by rw [← size_list, h, List.length_append]
  have := part_list s A B [] (by rw [h, List.append_nil])
  rwa [← hz] at this
theorem verT_bytes (a b c : Nat) : ∀ v ∈ Lib.decDigits a ++ (46 :: (Lib.decDigits b ++ (46 :: Lib.decDigits c))), 33 ≤ v.toNat ∧ v.toNat ≠ 124 := by
  intro v hv
  rcases List.mem_append.1 hv with h | h
  · exact (dec_mem a v h).2
  · rcases List.mem_cons.1 h with h | h
    · subst h; decide
    · rcases List.mem_append.1 h with h | h
      · exact (dec_mem b v h).2
      · rcases List.mem_cons.1 h with h | h
        · subst h; decide
        · exact (dec_mem c v h).2
end Go.Proofs.YtlhijjfbcgconaaDoor.P


/- Ranges: the short texts with a tilde. -/
set_option linter.unusedVariables false
set_option linter.unusedSimpArgs false
namespace Go.Proofs.YtlhijjfbcgconaaDoor.P
open Go.RowKit Go.Proofs.YtlhijjfbcgconaaDoorW.PrintWords Go.Proofs.YtlhijjfbcgconaaDoorW.PrintLast Go.Proofs.YtlhijjfbcgconaaDoorW.PrintMore

end Go.Proofs.YtlhijjfbcgconaaDoor.P


/- Ranges: the texts with a sign for any number. -/
set_option linter.unusedVariables false
set_option linter.unusedSimpArgs false
namespace Go.Proofs.YtlhijjfbcgconaaDoor.P
open Go.RowKit Go.Proofs.YtlhijjfbcgconaaDoorW.PrintWords Go.Proofs.YtlhijjfbcgconaaDoorW.PrintLast Go.Proofs.YtlhijjfbcgconaaDoorW.PrintMore

end Go.Proofs.YtlhijjfbcgconaaDoor.P


/- Ranges: laws.ranged of each text of the laws. -/
set_option linter.unusedVariables false
set_option linter.unusedSimpArgs false
namespace Go.Proofs.YtlhijjfbcgconaaDoor.P
open Go.RowKit Go.Proofs.YtlhijjfbcgconaaDoorW.PrintWords Go.Proofs.YtlhijjfbcgconaaDoorW.PrintLast Go.Proofs.YtlhijjfbcgconaaDoorW.PrintMore

theorem text_call (v1 v2 v3 : Nat) (h1 : v1 < 1000) (h2 : v2 < 1000) (h3 : v3 < 1000) (W : World) : Calls Tryd.prog 20 #[.agg #[.int .u64 (v1 : Int), .int .u64 (v2 : Int), .int .u64 (v3 : Int), .string ⟨#[]⟩, .string ⟨#[]⟩]] W fun e w' => e = .returned (.string (verT v1 v2 v3)) ∧ Below W.heap.size W w' :=
  spec_TextOf.calls 15 _ _ _ _ _ _ W (textOf_f v1 v2 v3 (by omega) (by omega) (by omega))
end Go.Proofs.YtlhijjfbcgconaaDoor.P

