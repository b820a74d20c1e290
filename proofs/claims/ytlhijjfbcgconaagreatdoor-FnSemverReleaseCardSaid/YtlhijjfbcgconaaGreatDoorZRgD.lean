/- Texts joined: Rg15, Rg40, Rg41. -/
import Derived.Test.YtlhijjfbcgconaaGreatDoorZRgA
import Derived.Test.YtlhijjfbcgconaaGreatDoorZSv
import Derived.Test.YtlhijjfbcgconaaGreatDoorZRgC
import Derived.Test.YtlhijjfbcgconaaGreatDoorZRgB

/- Ranges: versions of three, two and one numbers as constraints. -/
set_option linter.unusedVariables false
set_option linter.unusedSimpArgs false
namespace Go.Proofs.YtlhijjfbcgconaaGreatDoor.P
open Go.RowKit Go.Proofs.YtlhijjfbcgconaaGreatDoorW.PrintWords Go.Proofs.YtlhijjfbcgconaaGreatDoorW.PrintLast Go.Proofs.YtlhijjfbcgconaaGreatDoorW.PrintMore

theorem fails_first {s : ByteArray} {i : Nat} {o : ByteArray} {b : Int} (ho : 0 < o.size) (hb : bt o 0 = b) (h : i < s.size → bt s (i : Int) ≠ b) : Fails s i o := by
  by_cases c : i + o.size ≤ s.size
  · refine .other c (fun he => h (by omega) ?_)
    have h2 := bt_ext s i (i + o.size) 0 (by omega)
    rw [he, Nat.add_zero] at h2
    rw [← h2]
    exact hb
  · exact .short (by omega)
theorem space_none (s : ByteArray) (hs : s.size ≤ 1000) (i : Nat) (hi : i ≤ s.size) (h : i < s.size → ¬ isS (bt s (i : Int))) : Ev (fun k => semver_zzSpace.f k s (i : Int)) (i : Int) :=
  space_f s (by omega) i i (Nat.le_refl _) hi (if c : i = s.size then .inl c else .inr (h (by omega))) (fun j h1 h2 => absurd h2 (by omega))
end Go.Proofs.YtlhijjfbcgconaaGreatDoor.P


/- Releases: one test and a version of any form, as a constraint. -/
set_option linter.unusedVariables false
set_option linter.unusedSimpArgs false
namespace Go.Proofs.YtlhijjfbcgconaaGreatDoor.P
open Go.RowKit Go.Proofs.YtlhijjfbcgconaaGreatDoorW.PrintWords Go.Proofs.YtlhijjfbcgconaaGreatDoorW.PrintLast Go.Proofs.YtlhijjfbcgconaaGreatDoorW.PrintMore

theorem bt_shift {s o t : ByteArray} (hl : s.data.toList = o.data.toList ++ t.data.toList) (j : Nat) : bt s ((o.size + j : Nat) : Int) = bt t (j : Int) := by
  rw [bt_opt, bt_opt, hl, List.getElem?_append_right (by rw [size_list]; omega), size_list, Nat.add_sub_cancel_left]
theorem PF.shift {s o t : ByteArray} (hl : s.data.toList = o.data.toList ++ t.data.toList) {st : Bool} {y x : Nat} (h : PF t st y x) : PF s false (o.size + y) (o.size + x) := by
  have sh : ∀ (P : Int → Prop) (x z : Nat), (∀ j, x ≤ j → j < z → P (bt t (j : Int))) → ∀ j, o.size + x ≤ j → j < o.size + z → P (bt s (j : Int)) := fun P x z hp j h1 h2 => by
    have := hp (j - o.size) (by omega) (by omega)
    rwa [← bt_shift hl, show o.size + (j - o.size) = j by omega] at this
  induction h with
  | @last x h hp _ => exact .last (by omega) (sh isP x y hp) (fun h => by cases h)
  | @more x z h hz hp _ hd r ih => exact .more (z := o.size + z) (by omega) (by omega) (sh isP x z hp) (fun h => by cases h) (by rw [bt_shift hl]; exact hd) ih
theorem PF.chars {s : ByteArray} {st : Bool} {y x : Nat} (h : PF s st y x) : ∀ j, x ≤ j → j < y → isP (bt s (j : Int)) ∨ bt s (j : Int) = 46 := by
  induction h with
  | last h hp _ => exact fun j h1 h2 => .inl (hp j h1 h2)
  | @more x z h hz hp _ hd r ih =>
    intro j h1 h2
    rcases Nat.lt_trichotomy j z with c | c | c
    · exact .inl (hp j h1 c)
    · subst c; exact .inr hd
    · exact ih j (by omega) h2
/-- The signs of a version without what stands behind a plus sign. -/
theorem form_chars {t : ByteArray} {a b c : Nat} {n1 n2 n3 : Int} {pre : ByteArray} (h : Form t a b c t.size n1 n2 n3 pre ⟨#[]⟩) : ∀ j, j < t.size → isP (bt t (j : Int)) ∨ bt t (j : Int) = 46 := by
  intro j hj
  obtain ⟨-, -, -, e1, -, -⟩ := h.d1
  obtain ⟨l2, -, -, e2, -, -⟩ := h.d2
  obtain ⟨l3, -, -, e3, -, -⟩ := h.d3
  rcases Nat.lt_trichotomy j a with x | x | x
  · exact .inl (isD_isP (e1 j (Nat.zero_le _) x))
  · subst x; exact .inr h.p1
  rcases Nat.lt_trichotomy j b with y | y | y
  · exact .inl (isD_isP (e2 j (by omega) y))
  · subst y; exact .inr h.p2
  by_cases z : j < c
  · exact .inl (isD_isP (e3 j (by omega) z))
  rcases h.hpre with ⟨q, -⟩ | ⟨q, q2, q3, -⟩
  · omega
  · by_cases z2 : j = c
    · subst z2
      rw [q2]
      exact .inl (by unfold isP; omega)
    · exact q3.chars j (by omega) hj
/-- What stands behind a plus sign is nothing: the version ends where its numbers and what is behind the hyphen end. -/
theorem form_end {t : ByteArray} {a b c m : Nat} {n1 n2 n3 : Int} {pre : ByteArray} (h : Form t a b c m n1 n2 n3 pre ⟨#[]⟩) : m = t.size := by
  rcases h.hmeta with ⟨q, -⟩ | ⟨q, q2, q3, q4⟩
  · exact q
  · exfalso
    have hl := q3.lt
    have hz : (⟨#[]⟩ : ByteArray).size = t.size - (m + 1) := by rw [q4, ext_size _ _ _ (Nat.le_refl _)]
    have h0 : (⟨#[]⟩ : ByteArray).size = 0 := rfl
    omega
theorem isXb_dig (m : ByteArray) (h : ∀ j, j < m.size → isD (bt m (j : Int))) : isXb m = false := by
  have hn : ∀ c : UInt8, ¬ isD (c.toNat : Int) → (m.toList == [c]) = false := fun c hc => beq_eq_false_iff_ne.2 (fun q => by
    rw [ByteArray.toList_eq] at q
    have hz : m.size = 1 := by rw [← size_list, q]; rfl
    have h1 := h 0 (by omega)
    rw [bt_opt, q] at h1
    exact hc h1)
  unfold isXb
  rw [hn 120 (by unfold isD; decide), hn 42 (by unfold isD; decide), hn 88 (by unfold isD; decide)]
  rfl
theorem isXb_trim (m : ByteArray) (hz : 0 < m.size) (h0 : bt m 0 = 46) (h : ∀ j, 1 ≤ j → j < m.size → isD (bt m (j : Int))) : isXb (trimDot m) = false := by
  obtain ⟨v, T, hv⟩ : ∃ v T, m.data.toList = v :: T := by
    cases q : m.data.toList with
    | nil => rw [← size_list, q] at hz; cases hz
    | cons v T => exact ⟨v, T, rfl⟩
  have hz2 : m.size = T.length + 1 := by rw [← size_list, hv]; rfl
  have h00 : bt m ((0 : Nat) : Int) = 46 := h0
  rw [bt_opt, hv] at h00
  have hv46 : v = 46 := UInt8.toNat_inj.1 (by
    have : ((v.toNat : Nat) : Int) = 46 := h00
    show v.toNat = 46
    omega)
  subst hv46
  have ht : (trimDot m).data.toList = T := by
    unfold trimDot Lib.trimPrefix
    rw [hv]
    simp [Lib.hasPrefix]
  refine isXb_dig _ (fun j hj => ?_)
  have hjT : j < T.length := by rw [← size_list, ht] at hj; exact hj
  have := h (j + 1) (by omega) (by omega)
  rw [bt_opt, hv, List.getElem?_cons_succ, ← ht, ← bt_opt] at this
  exact this
theorem v0_dig {s : ByteArray} {a : Nat} (ha : a < s.size) (h : isD (bt s (a : Int))) : V0 s a a := .inl ⟨rfl, .inr ⟨ha, fun q => by unfold isD at h; omega⟩⟩
/-- A version behind an operator, as a constraint has it. -/
theorem form_ver {s o t : ByteArray} {a b c : Nat} {n1 n2 n3 : Int} {pre : ByteArray} (hl : s.data.toList = o.data.toList ++ t.data.toList) (hs : s.size ≤ 1000) (h : Form t a b c t.size n1 n2 n3 pre ⟨#[]⟩) :
    s.size = o.size + t.size ∧ 0 < t.size ∧ isD (bt s (o.size : Int)) ∧ s.extract o.size s.size = t ∧ ∃ m0 m1 m2 m3, Ver s o.size s.size m0 m1 m2 m3 o.size (o.size + a) (o.size + b) (o.size + c) s.size ∧ Dirt s o.size s.size m0 m1 m2 m3 t false false false := by
  obtain ⟨l1, -, z1, e1, -, -⟩ := h.d1
  obtain ⟨l2, -, z2, e2, -, -⟩ := h.d2
  obtain ⟨l3, -, z3, e3, -, -⟩ := h.d3
  have hz : s.size = o.size + t.size := by rw [← size_list, hl, List.length_append, size_list, size_list]
  have sh : ∀ j, bt s ((o.size + j : Nat) : Int) = bt t (j : Int) := bt_shift hl
  have dg : ∀ x z : Nat, (∀ j, x ≤ j → j < z → isD (bt t (j : Int))) → ∀ j, o.size + x ≤ j → j < o.size + z → isD (bt s (j : Int)) := fun x z hp j h1 h2 => by
    have := hp (j - o.size) (by omega) (by omega)
    rwa [← sh, show o.size + (j - o.size) = j by omega] at this
  have b0 : isD (bt s (o.size : Int)) := by
    have := dg 0 a e1 o.size (by omega) (by omega)
    exact this
  have c1 : bt s ((o.size + a : Nat) : Int) = 46 := (sh a).trans h.p1
  have c2 : bt s ((o.size + b : Nat) : Int) = 46 := (sh b).trans h.p2
  have D1 := dg 0 a e1
  have D2 := dg (a + 1) b e2
  have D3 := dg (b + 1) c e3
  have q1 := h.q1
  have q2 := h.q2
  have cm := h.cm
  have n46 : ¬ isM 46 := by unfold isM; omega
  have ht : s.extract o.size s.size = t := by
    apply ba_ext
    rw [extract_list, hl, List.drop_append_of_le_length (by rw [size_list]; exact Nat.le_refl _), show o.size = o.data.toList.length from (size_list o).symm, List.drop_length, List.nil_append, size_list, hz, Nat.add_sub_cancel_left, ← size_list, List.take_length]
  have hp3 : Ev (fun k => semver_zzParts.f k s ((o.size + c : Nat) : Int) 45) (s.size : Int) := by
    rcases h.hpre with ⟨q, -⟩ | ⟨q, g2, g3, -⟩
    · have := zzParts_none s (o.size + c) 45 (.inl (by omega))
      rwa [show o.size + c = s.size by omega] at this ⊢
    · have g4 := g3.shift hl
      rw [← hz] at g4
      exact zzParts_run s (by omega) false (o.size + c) s.size 45 (by omega) ((sh c).trans g2) (Nat.le_refl _) (.inl rfl) g4
  have hend : o.size + c = s.size ∨ ¬ isM (bt s ((o.size + c : Nat) : Int)) := by
    rcases h.hpre with ⟨q, -⟩ | ⟨q, g2, -, -⟩
    · exact .inl (by omega)
    · refine .inr ?_
      rw [sh c, g2]
      unfold isM
      omega
  have hD : Dirt s o.size s.size (s.extract o.size (o.size + a)) (s.extract (o.size + a) (o.size + b)) (s.extract (o.size + b) (o.size + c)) (if o.size + c < s.size then s.extract (o.size + c) s.size else ⟨#[]⟩) (s.extract o.size s.size) false false false := by
    have y0 : (s.extract o.size (o.size + a)).size = a := by rw [ext_size _ _ _ (by omega)]; omega
    have y1 : (s.extract (o.size + a) (o.size + b)).size = b - a := by rw [ext_size _ _ _ (by omega)]; omega
    have y2 : (s.extract (o.size + b) (o.size + c)).size = c - b := by rw [ext_size _ _ _ (by omega)]; omega
    refine .full (isXb_dig _ (fun j hj => ?_)) (by omega) (isXb_trim _ (by omega) ?_ (fun j h1 hj => ?_)) (by omega) (isXb_trim _ (by omega) ?_ (fun j h1 hj => ?_)) (by omega)
    · rw [bt_ext _ _ _ _ (by omega)]
      exact D1 _ (by omega) (by omega)
    · rw [bt_ext0 _ _ _ (by omega)]
      exact c1
    · rw [bt_ext _ _ _ _ (by omega)]
      exact D2 _ (by omega) (by omega)
    · rw [bt_ext0 _ _ _ (by omega)]
      exact c2
    · rw [bt_ext _ _ _ _ (by omega)]
      exact D3 _ (by omega) (by omega)
  rw [ht] at hD
  refine ⟨hz, by omega, b0, ht, _, _, _, _, ?_, hD⟩
  exact {
    hv := v0_dig (by omega) b0
    h0 := by omega
    ha := by omega
    hm := mark_f s (by omega) _ _ (by omega) (by omega) (.inr (by rw [c1]; exact n46)) (fun j h1 h2 => .inl (D1 j h1 h2))
    e0 := rfl
    s1 := .on (by omega) c1 (by omega) (by omega) (mark_f s (by omega) _ _ (by omega) (by omega) (.inr (by rw [c2]; exact n46)) (fun j h1 h2 => .inl (D2 j h1 h2)))
    s2 := .inr ⟨by omega, .on (by omega) c2 (by omega) (by omega) (mark_f s (by omega) _ _ (by omega) (by omega) hend (fun j h1 h2 => .inl (D3 j h1 h2)))⟩
    hcd := by omega
    hd := Nat.le_refl _
    p3 := hp3
    e3 := rfl
    hde := Nat.le_refl _
    he := Nat.le_refl _
    p4 := zzParts_none s s.size 43 (.inl rfl) }
end Go.Proofs.YtlhijjfbcgconaaGreatDoor.P


/- Releases: impl.SemverCompare of one test and a version. -/
set_option linter.unusedVariables false
set_option linter.unusedSimpArgs false
namespace Go.Proofs.YtlhijjfbcgconaaGreatDoor.P
open Go.RowKit Go.Proofs.YtlhijjfbcgconaaGreatDoorW.PrintWords Go.Proofs.YtlhijjfbcgconaaGreatDoorW.PrintLast Go.Proofs.YtlhijjfbcgconaaGreatDoorW.PrintMore

theorem bt_atz (s : ByteArray) (A : List UInt8) (v : UInt8) (T : List UInt8) (h : s.data.toList = A ++ v :: T) : bt s (A.length : Int) = (v.toNat : Int) := by
  rw [bt_opt, h, List.getElem?_append_right (Nat.le_refl _), Nat.sub_self]
  rfl
theorem noVer_z {s : ByteArray} {a : Nat} (hs : s.size ≤ 1000) (ha : a < s.size) (h : bt s (a : Int) ≠ 118 ∧ ¬ isM (bt s (a : Int))) : NoVer s a :=
  ⟨a, .inl ⟨rfl, .inr ⟨ha, h.1⟩⟩, Nat.le_of_lt ha, mark_f s (by omega) a a (Nat.le_refl _) (Nat.le_of_lt ha) (.inr h.2) (fun j h1 h2 => absurd h2 (by omega))⟩
theorem part_listz (s : ByteArray) (A B : List UInt8) (h : s.data.toList = A ++ B) : (s.extract 0 A.length).data.toList = A := by
  rw [extract_list, h, List.drop_zero, Nat.sub_zero, List.take_append_of_le_length (Nat.le_refl _), List.take_length]
/-- One of the five tests, and a version. -/
theorem at_op {s : ByteArray} {t : ByteArray} (K : Nat) (hK : K = 0 ∨ K = 3 ∨ K = 4 ∨ K = 5 ∨ K = 7) (hs : s.size ≤ 1000) (hl : s.data.toList = (opAt K).data.toList ++ t.data.toList) (hz : s.size = (opAt K).size + t.size) (h0 : 0 < t.size) (hd : isD (bt s ((opAt K).size : Int)))
    (hv : ∃ m0 m1 m2 m3 i0 a1 b c d, Ver s (opAt K).size s.size m0 m1 m2 m3 i0 a1 b c d) : At s 0 K (opAt K).size s.size := by
  have hh : Holds s 0 (opAt K) (opAt K).size s.size := by
    refine ⟨by omega, ba_ext ?_, ?_, by omega, by omega, by omega, hv⟩
    · have h := part_listz s _ _ hl
      rw [size_list] at h
      rw [Nat.zero_add]
      exact h
    · rw [Nat.zero_add]
      exact space_none s hs _ (by omega) (fun _ h => by unfold isD at hd; unfold isS at h; omega)
  have F1 : (bt s 0 = 62 ∨ bt s 0 = 60) → Fails s 0 (opAt 1) := fun h => by
    refine .none (a := 0) (Nat.zero_le _) (by show s.extract 0 0 = ⟨#[]⟩; exact ba_ext (List.eq_nil_of_length_eq_zero (by rw [size_list, ByteArray.size_extract]; omega))) (space_none s hs 0 (Nat.zero_le _) (fun _ g => ?_)) (Nat.zero_le _) (noVer_z hs (by omega) ⟨fun g => ?_, fun g => ?_⟩)
    · have g' : isS (bt s 0) := g
      unfold isS at g'
      omega
    · have g' : bt s 0 = 118 := g
      omega
    · have g' : isM (bt s 0) := g
      unfold isM at g'
      omega
  have ne : ∀ (x b : Int), bt s 0 = x → x ≠ b → (0 < s.size → bt s ((0 : Nat) : Int) ≠ b) := fun x b h1 h2 _ h => h2 (h1.symm.trans h)
  have mid : ∀ c : UInt8, ∀ T, s.data.toList = c :: 61 :: T → (o : ByteArray) → o = ⟨#[c]⟩ → Fails s 0 o := fun c T hT o ho => by
    subst ho
    have z2 : 2 ≤ s.size := by rw [← size_list, hT, List.length_cons, List.length_cons]; omega
    have b1 : bt s ((1 : Nat) : Int) = 61 := bt_atz s [c] 61 T hT
    refine .none (a := 1) (by show 0 + 1 ≤ s.size; omega) ?_ (space_none s hs 1 (by omega) (fun _ h => by rw [b1] at h; revert h; unfold isS; decide)) (by omega) (noVer_z hs (by omega) (by rw [b1]; exact ⟨by decide, by unfold isM; decide⟩))
    show s.extract 0 1 = ⟨#[c]⟩
    exact ba_ext (part_listz s [c] _ hT)
  rcases hK with rfl | rfl | rfl | rfl | rfl
  · exact ⟨by decide, fun j hj => absurd hj (Nat.not_lt_zero _), hh⟩
  · have b0 : bt s 0 = 62 := bt_atz s [] 62 _ hl
    refine ⟨by decide, fun j hj => ?_, hh⟩
    match j, hj with
    | 0, _ => exact fails_first (b := 61) (by decide) (by decide +kernel) (ne _ _ b0 (by decide))
    | 1, _ => exact F1 (.inl b0)
    | 2, _ => exact fails_first (b := 33) (by decide) (by decide +kernel) (ne _ _ b0 (by decide))
  · have b0 : bt s 0 = 60 := bt_atz s [] 60 _ hl
    refine ⟨by decide, fun j hj => ?_, hh⟩
    match j, hj with
    | 0, _ => exact fails_first (b := 61) (by decide) (by decide +kernel) (ne _ _ b0 (by decide))
    | 1, _ => exact F1 (.inr b0)
    | 2, _ => exact fails_first (b := 33) (by decide) (by decide +kernel) (ne _ _ b0 (by decide))
    | 3, _ => exact fails_first (b := 62) (by decide) (by decide +kernel) (ne _ _ b0 (by decide))
  · have b0 : bt s 0 = 62 := bt_atz s [] 62 _ hl
    refine ⟨by decide, fun j hj => ?_, hh⟩
    match j, hj with
    | 0, _ => exact fails_first (b := 61) (by decide) (by decide +kernel) (ne _ _ b0 (by decide))
    | 1, _ => exact F1 (.inl b0)
    | 2, _ => exact fails_first (b := 33) (by decide) (by decide +kernel) (ne _ _ b0 (by decide))
    | 3, _ => exact mid 62 _ hl _ rfl
    | 4, _ => exact fails_first (b := 60) (by decide) (by decide +kernel) (ne _ _ b0 (by decide))
  · have b0 : bt s 0 = 60 := bt_atz s [] 60 _ hl
    refine ⟨by decide, fun j hj => ?_, hh⟩
    match j, hj with
    | 0, _ => exact fails_first (b := 61) (by decide) (by decide +kernel) (ne _ _ b0 (by decide))
    | 1, _ => exact F1 (.inr b0)
    | 2, _ => exact fails_first (b := 33) (by decide) (by decide +kernel) (ne _ _ b0 (by decide))
    | 3, _ => exact fails_first (b := 62) (by decide) (by decide +kernel) (ne _ _ b0 (by decide))
    | 4, _ => exact mid 60 _ hl _ rfl
    | 5, _ => exact fails_first (b := 62) (by decide) (by decide +kernel) (ne _ _ b0 (by decide))
    | 6, _ => exact fails_first (b := 61) (by decide) (by decide +kernel) (ne _ _ b0 (by decide))
theorem op_chars (K : Nat) (hK : K = 0 ∨ K = 3 ∨ K = 4 ∨ K = 5 ∨ K = 7) : (opAt K).size ≤ 2 ∧ ∀ j, j < (opAt K).size → 60 ≤ bt (opAt K) (j : Int) ∧ bt (opAt K) (j : Int) ≤ 62 := by
  refine ⟨opAt_size K, ?_⟩
  rcases hK with rfl | rfl | rfl | rfl | rfl <;> intro j hj
  · have : j < 1 := hj
    obtain rfl : j = 0 := by omega
    decide +kernel
  · have : j < 1 := hj
    obtain rfl : j = 0 := by omega
    decide +kernel
  · have : j < 1 := hj
    obtain rfl : j = 0 := by omega
    decide +kernel
  · have : j < 2 := hj
    obtain rfl | rfl : j = 0 ∨ j = 1 := by omega
    · decide +kernel
    · decide +kernel
  · have : j < 2 := hj
    obtain rfl | rfl : j = 0 ∨ j = 1 := by omega
    · decide +kernel
    · decide +kernel
/-- What a test answers: C the order of the versions. -/
def relB (K : Nat) (C : Int) : Bool := match K with
  | 0 => C == 0
  | 3 => C == 1
  | 4 => decide (C < 0)
  | 5 => decide (C ≥ 0)
  | _ => decide (C ≤ 0)
theorem ans_rel (K : Nat) (hK : K = 0 ∨ K = 3 ∨ K = 4 ∨ K = 5 ∨ K = 7) {pa ma oa pb mb ob orig : ByteArray} {a1 a2 a3 b1 b2 b3 : Int} (C : Int) (hz : 0 < pa.size) (hpre : 0 < pa.size → 0 < pb.size → ∀ W, TabsE W → Calls Tryz.prog 76 #[.string pa, .string pb] W fun e w' => e = .returned (.int .i64 C) ∧ Below W.heap.size W w') (w : World) (hE : TabsE w) :
    ∀ (W : World) (qv g q : Nat), Below w.heap.size w W → Mem W qv g q a1 a2 a3 b1 b2 b3 pa ma oa pb mb ob orig (opAt K) false false false → qv ≠ q →
    Calls Tryz.prog 29 #[.pointer (some ⟨g, 0, none⟩), .pointer (some ⟨qv, 0, none⟩), .bool (pb.toList != [])] W fun e w' => (∃ er, e = .returned (.tuple #[.bool ((pb.toList != []) && relB K (cmpV a1 a2 a3 b1 b2 b3 pa pb C)), er])) ∧ Below W.heap.size W w' := by
  intro W qv g q hW hm hne
  have hcmp : ∀ V, Below W.heap.size W V → Calls Tryz.prog 77 #[.pointer (some ⟨qv, 0, none⟩), .pointer (some ⟨q, 0, none⟩)] V fun e w' => e = .returned (.int .i64 (cmpV a1 a2 a3 b1 b2 b3 pa pb C)) ∧ Below V.heap.size V w' := fun V hV =>
    compare_call qv q a1 a2 a3 b1 b2 b3 pa ma oa pb mb ob C V (hm.below hV).v (hm.below hV).c ((hE.below hW).below hV) hpre
  by_cases hb : pb.size = 0
  · have e0 : (pb.toList != []) = false := by rw [show pb = ⟨#[]⟩ from ba_ext (List.eq_nil_of_length_eq_zero (by rw [size_list]; exact hb))]; decide +kernel
    rw [e0, Bool.false_and]
    rcases hK with rfl | rfl | rfl | rfl | rfl
    · exact check_TildeOrEqual false W hm zzOp_0 (fun V hmV hV => no_teq V hmV hz)
    · exact check_GreaterThan false W hm zzOp_3 (fun V hmV hV => no_gt V hmV hz)
    · exact check_LessThan false W hm zzOp_4 (fun V hmV hV => no_lt V hmV hz)
    · exact check_GreaterThanEqual false W hm zzOp_5 (fun V hmV hV => no_gte V hmV hz)
    · exact check_LessThanEqual false W hm zzOp_7 (fun V hmV hV => no_lte V hmV hz)
  · have e0 : (pb.toList != []) = true := by
      rw [ByteArray.toList_eq]
      refine bne_iff_ne.2 (fun q => hb ?_)
      rw [← size_list, q]
      rfl
    rw [e0, Bool.true_and]
    rcases hK with rfl | rfl | rfl | rfl | rfl
    · exact check_TildeOrEqual true W hm zzOp_0 (fun V hmV hV => teq_call true hne V hmV (.inr rfl) (fun U hU => hcmp U (hV.trans (hU.mono hV.size))))
    · exact check_GreaterThan true W hm zzOp_3 (fun V hmV hV => gt_call true rfl V hmV (.inr rfl) (fun U hU => hcmp U (hV.trans (hU.mono hV.size))))
    · exact check_LessThan true W hm zzOp_4 (fun V hmV hV => ltc_call true V hmV (.inr rfl) (fun U hU => hcmp U (hV.trans (hU.mono hV.size))))
    · exact check_GreaterThanEqual true W hm zzOp_5 (fun V hmV hV => gte_call true V hmV (.inr rfl) (fun U hU => hcmp U (hV.trans (hU.mono hV.size))))
    · exact check_LessThanEqual true W hm zzOp_7 (fun V hmV hV => lte_call true rfl V hmV (.inr rfl) (fun U hU => hcmp U (hV.trans (hU.mono hV.size))))
theorem compare_rel (K : Nat) (hK : K = 0 ∨ K = 3 ∨ K = 4 ∨ K = 5 ∨ K = 7) {s t v : ByteArray} {a b c a' b' c' d' : Nat} {n1 n2 n3 m1 m2 m3 : Int} {pa pb ma : ByteArray} (hl : s.data.toList = (opAt K).data.toList ++ t.data.toList)
    (hF : Form t a b c t.size m1 m2 m3 pb ⟨#[]⟩) (hV : Form v a' b' c' d' n1 n2 n3 pa ma) (C : Int) (hz : 0 < pa.size) (hpre : 0 < pa.size → 0 < pb.size → ∀ W, TabsE W → Calls Tryz.prog 76 #[.string pa, .string pb] W fun e w' => e = .returned (.int .i64 C) ∧ Below W.heap.size W w') (w : World) (hE : TabsE w) :
    Calls Tryz.prog 7 #[.string s, .string v] w fun e w' => e = .returned (.tuple #[.bool ((pb.toList != []) && relB K (cmpV n1 n2 n3 m1 m2 m3 pa pb C)), .bool true]) ∧ Below w.heap.size w w' := by
  obtain ⟨oz, oc⟩ := op_chars K hK
  have tz := hF.size
  have sz : s.size = (opAt K).size + t.size := by rw [← size_list, hl, List.length_append, size_list, size_list]
  obtain ⟨-, h0, hd, hex, m0, m1', m2', m3', hVer, hD⟩ := form_ver hl (by omega) hF
  have hA := at_op K hK (by omega) hl sz h0 hd ⟨_, _, _, _, _, _, _, _, _, hVer⟩
  have hn : ∀ j, j < s.size → ¬ isS (bt s (j : Int)) ∧ bt s (j : Int) ≠ 124 := by
    intro j hj
    by_cases q : j < (opAt K).size
    · have h1 := oc j q
      rw [bt_opt] at h1
      rw [bt_opt, hl, List.getElem?_append_left (by rw [size_list]; exact q)]
      generalize (match (opAt K).data.toList[j]? with | some b => ((b.toNat : Nat) : Int) | none => 0) = x at *
      unfold isS
      omega
    · have h1 := form_chars hF (j - (opAt K).size) (by omega)
      rw [← bt_shift hl, show (opAt K).size + (j - (opAt K).size) = j by omega] at h1
      unfold isS
      unfold isP at h1
      omega
  have s0 : Ev (fun k => semver_zzSpace.f k s ((0 : Nat) : Int)) ((0 : Nat) : Int) := space_none s (by omega) 0 (Nat.zero_le _) (fun h => (hn 0 h).1)
  have se : Ev (fun k => semver_zzSpace.f k s (s.size : Int)) (s.size : Int) := space_none s (by omega) s.size (Nat.le_refl _) (fun h => absurd h (Nat.lt_irrefl _))
  have hwh : s.extract 0 s.size = s := by
    apply ba_ext
    rw [extract_list, List.drop_zero, Nat.sub_zero, ← size_list, List.take_length]
  have hF2 : Finds s 0 [s] := by
    have h := Finds.take (l := []) hA.lo.1 hA Finds.stop
    rwa [hwh] at h
  exact implCompare_of w (sprigCompare_of w (semCompare_one (hp := (pb.toList != [])) (fun W => new_one (hp := (pb.toList != [])) (by omega) hn rfl (fun V => valid_call (by omega) s0 (.last hA se) V) (fun V => find_call (by omega) (by show 1 ≤ 1000; decide) hF2 V) (fun V => parseC_call (by omega) s0 hA hVer se hD hF V) W) hV w (ans_rel K hK C hz hpre w hE)))
end Go.Proofs.YtlhijjfbcgconaaGreatDoor.P

