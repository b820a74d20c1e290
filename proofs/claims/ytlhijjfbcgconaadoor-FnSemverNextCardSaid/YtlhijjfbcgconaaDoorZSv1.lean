/- Versions, plain: runs of digits, parts with points between; what the printed functions zzDigits, zzPart, zzParts, number, parts give. -/
import Derived.Test.YtlhijjfbcgconaaDoorZPx14
import Derived.Test.YtlhijjfbcgconaaDoorZPx12
import Derived.Test.YtlhijjfbcgconaaDoorZPx4
import Derived.Test.YtlhijjfbcgconaaDoorZXw
import Derived.Lib.Hide
set_option linter.unusedVariables false
set_option linter.unusedSimpArgs false
namespace Go.Proofs.YtlhijjfbcgconaaDoor.P
open Go.RowKit Go.Proofs.YtlhijjfbcgconaaDoorW.PrintWords Go.Proofs.YtlhijjfbcgconaaDoorW.PrintLast Go.Proofs.YtlhijjfbcgconaaDoorW.PrintMore

/-! ### bytes -/
theorem list_get (s : ByteArray) (j : Nat) (h : j < s.size) : s.data.toList[j]? = some (s[j]'h) := by
  have h2 : j < s.data.toList.length := by rw [Array.length_toList]; exact h
  rw [List.getElem?_eq_getElem h2]
  rfl
theorem bt_opt (s : ByteArray) (j : Nat) : bt s (j : Int) = match s.data.toList[j]? with | some b => ((b.toNat : Nat) : Int) | none => 0 := by
  by_cases h : j < s.size
  · rw [list_get s j h, bt_nat s j h]
  · rw [List.getElem?_eq_none (by rw [Array.length_toList]; exact Nat.le_of_not_lt h)]
    unfold bt
    rw [dif_neg (by simpa using h)]
theorem ext_size (s : ByteArray) (a b : Nat) (h : b ≤ s.size) : (s.extract a b).size = b - a := by rw [ByteArray.size_extract]; omega
theorem bt_ext (s : ByteArray) (a b j : Nat) (h : a + j < b) : bt (s.extract a b) (j : Int) = bt s ((a + j : Nat) : Int) := by
  rw [bt_opt, bt_opt, extract_list, List.getElem?_take, if_pos (by omega), List.getElem?_drop]
theorem ext_ext (s : ByteArray) (a b x y : Nat) (h : a + y ≤ b) : (s.extract a b).extract x y = s.extract (a + x) (a + y) := by
  apply ba_ext
  rw [extract_list, extract_list, extract_list, List.drop_take, List.drop_drop, List.take_take]
  congr 1
  omega
theorem ext_all (s : ByteArray) : s.extract 0 s.size = s := by
  apply ba_ext
  rw [extract_list, List.drop_zero, Nat.sub_zero]
  exact List.take_of_length_le (by rw [size_list]; exact Nat.le_refl _)
theorem ext_nil (s : ByteArray) (a : Nat) : s.extract a a = ⟨#[]⟩ := by
  apply ba_ext
  rw [extract_list, Nat.sub_self, List.take_zero]

/-! ### digits and parts -/
def isD (x : Int) : Prop := 48 ≤ x ∧ x ≤ 57
def isP (x : Int) : Prop := (48 ≤ x ∧ x ≤ 57) ∨ (97 ≤ x ∧ x ≤ 122) ∨ (65 ≤ x ∧ x ≤ 90) ∨ x = 45
instance (x : Int) : Decidable (isD x) := by unfold isD; infer_instance
instance (x : Int) : Decidable (isP x) := by unfold isP; infer_instance
theorem zzDigits_l (s : ByteArray) (hs : s.size ≤ 100000) (e : Nat) (he : e ≤ s.size) (hend : e = s.size ∨ ¬ isD (bt s (e : Int))) : ∀ n i : Nat, i + n = e → (∀ j, i ≤ j → j < e → isD (bt s (j : Int))) → Ev (fun k => semver_zzDigits.l0 k s (i : Int)) (e : Int)
  | 0, i, hn, _ => by
    obtain rfl : i = e := by omega
    refine Ev.step (fun k => by rw [semver_zzDigits.l0]) ?_
    rcases hend with h | h
    · refine Ev.neg (by omega) (Ev.step (fun k => by rw [semver_zzDigits.j1]) (Ev.neg (by decide) (Ev.ok _)))
    · by_cases hlt : i < s.size
      · refine Ev.pos (by omega) (Ev.pos (by omega) ?_)
        unfold isD at h
        by_cases c : bt s (i : Int) ≥ 48
        · refine Ev.pos c (Ev.step (fun k => by rw [semver_zzDigits.j1]) (Ev.neg ?_ (Ev.ok _)))
          rw [decide_eq_true_eq]
          omega
        · exact Ev.neg c (Ev.step (fun k => by rw [semver_zzDigits.j1]) (Ev.neg (by decide) (Ev.ok _)))
      · exact Ev.neg (by omega) (Ev.step (fun k => by rw [semver_zzDigits.j1]) (Ev.neg (by decide) (Ev.ok _)))
  | n + 1, i, hn, hd => by
    have h1 := hd i (Nat.le_refl _) (by omega)
    have ih := zzDigits_l s hs e he hend n (i + 1) (by omega) (fun j h2 h3 => hd j (by omega) h3)
    refine Ev.step (fun k => by rw [semver_zzDigits.l0]) (Ev.pos (by omega) (Ev.pos (by omega) (Ev.pos h1.1 (Ev.step (fun k => by rw [semver_zzDigits.j1]) (Ev.pos (decide_eq_true h1.2) ?_)))))
    rw [w64_in (by omega) (by omega)]
    exact ih
theorem zzDigits_run (s : ByteArray) (hs : s.size ≤ 100000) (i e : Nat) (hi : i ≤ e) (he : e ≤ s.size) (hend : e = s.size ∨ ¬ isD (bt s (e : Int))) (hd : ∀ j, i ≤ j → j < e → isD (bt s (j : Int))) : Ev (fun k => semver_zzDigits.f k s (i : Int)) (e : Int) := by
  unfold semver_zzDigits.f
  exact zzDigits_l s hs e he hend (e - i) i (by omega) hd
theorem zzPart_l (s : ByteArray) (hs : s.size ≤ 100000) (e : Nat) (he : e ≤ s.size) (hend : e = s.size ∨ ¬ isP (bt s (e : Int))) : ∀ n i : Nat, i + n = e → (∀ j, i ≤ j → j < e → isP (bt s (j : Int))) → Ev (fun k => semver_zzPart.l0 k s (i : Int)) (e : Int)
  | 0, i, hn, _ => by
    obtain rfl : i = e := by omega
    have hno : Ev (fun k => semver_zzPart.j1 k s (i : Int) false) (i : Int) := Ev.step (fun k => by rw [semver_zzPart.j1]) (Ev.neg (by decide) (Ev.ok _))
    have hno2 : bt s (i : Int) ≠ 45 → Ev (fun k => semver_zzPart.j1 k s (i : Int) (bt s (i : Int) == 45)) (i : Int) := fun h => by
      rw [beq_eq_false_iff_ne.2 h]; exact hno
    refine Ev.step (fun k => by rw [semver_zzPart.l0]) ?_
    rcases hend with h | h
    · exact Ev.neg (by omega) hno
    · by_cases hlt : i < s.size
      · refine Ev.pos (by omega) (Ev.pos (by omega) ?_)
        unfold isP at h
        have h45 : bt s (i : Int) ≠ 45 := fun q => h (.inr (.inr (.inr q)))
        by_cases c1 : bt s (i : Int) ≥ 48
        · refine Ev.pos c1 (Ev.neg (by omega) ?_)
          by_cases c2 : bt s (i : Int) ≥ 97
          · refine Ev.pos c2 (Ev.neg (by omega) ?_)
            exact Ev.pos (by omega) (Ev.neg (by omega) (hno2 h45))
          · refine Ev.neg c2 ?_
            by_cases c3 : bt s (i : Int) ≥ 65
            · exact Ev.pos c3 (Ev.neg (by omega) (hno2 h45))
            · exact Ev.neg c3 (hno2 h45)
        · exact Ev.neg c1 (Ev.neg (by omega) (Ev.neg (by omega) (hno2 h45)))
      · exact Ev.neg (by omega) hno
  | n + 1, i, hn, hd => by
    have h1 := hd i (Nat.le_refl _) (by omega)
    have ih := zzPart_l s hs e he hend n (i + 1) (by omega) (fun j h2 h3 => hd j (by omega) h3)
    have hyes : Ev (fun k => semver_zzPart.j1 k s (i : Int) true) (e : Int) := Ev.step (fun k => by rw [semver_zzPart.j1]) (Ev.pos rfl (by rw [w64_in (by omega) (by omega)]; exact ih))
    refine Ev.step (fun k => by rw [semver_zzPart.l0]) (Ev.pos (by omega) (Ev.pos (by omega) ?_))
    unfold isP at h1
    by_cases c1 : bt s (i : Int) ≥ 48
    · refine Ev.pos c1 ?_
      by_cases c4 : bt s (i : Int) ≤ 57
      · exact Ev.pos c4 hyes
      · refine Ev.neg c4 ?_
        by_cases c2 : bt s (i : Int) ≥ 97
        · exact Ev.pos c2 (Ev.pos (by omega) hyes)
        · exact Ev.neg c2 (Ev.pos (by omega) (Ev.pos (by omega) hyes))
    · have h45 : bt s (i : Int) = 45 := by omega
      refine Ev.neg c1 (Ev.neg (by omega) (Ev.neg (by omega) ?_))
      rw [beq_iff_eq.2 h45]
      exact hyes
theorem zzPart_run (s : ByteArray) (hs : s.size ≤ 100000) (i e : Nat) (hi : i ≤ e) (he : e ≤ s.size) (hend : e = s.size ∨ ¬ isP (bt s (e : Int))) (hd : ∀ j, i ≤ j → j < e → isP (bt s (j : Int))) : Ev (fun k => semver_zzPart.f k s (i : Int)) (e : Int) := by
  unfold semver_zzPart.f
  exact zzPart_l s hs e he hend (e - i) i (by omega) hd
/-- No number with zeros ahead. -/
def okSeg (s : ByteArray) (x z : Nat) : Prop := x + 1 < z → bt s (x : Int) = 48 → ¬ ∀ j, x ≤ j → j < z → isD (bt s (j : Int))
/-- From a place on up to y: parts with points between. -/
inductive PF (s : ByteArray) (strict : Bool) (y : Nat) : Nat → Prop
  | last {x : Nat} (h : x < y) (hp : ∀ j, x ≤ j → j < y → isP (bt s (j : Int))) (hs : strict = true → okSeg s x y) : PF s strict y x
  | more {x z : Nat} (h : x < z) (hz : z < y) (hp : ∀ j, x ≤ j → j < z → isP (bt s (j : Int))) (hs : strict = true → okSeg s x z) (hd : bt s (z : Int) = 46) (r : PF s strict y (z + 1)) : PF s strict y x
theorem dot_notP : ¬ isP 46 := by unfold isP; omega
theorem PF.lt {s : ByteArray} {strict : Bool} {y x : Nat} (h : PF s strict y x) : x < y := by
  cases h with
  | last h _ _ => exact h
  | more h hz _ _ _ _ => omega
theorem zzParts_l (s : ByteArray) (hs : s.size ≤ 100000) (strict : Bool) (y : Nat) (hy : y ≤ s.size) (hend : y = s.size ∨ (¬ isP (bt s (y : Int)) ∧ bt s (y : Int) ≠ 46)) : ∀ {x : Nat}, PF s strict y x → ∃ z : Nat, x < z ∧ z ≤ y ∧ Ev (fun k => semver_zzPart.f k s (x : Int)) (z : Int) ∧ Ev (fun k => semver_zzParts.l0 k s (z : Int)) (y : Int) := by
  have hnoj : ∀ z : Nat, Ev (fun k => semver_zzParts.j2 k s (z : Int) false) (z : Int) := fun z => Ev.step (fun k => by rw [semver_zzParts.j2]) (Ev.neg (by decide) (Ev.ok _))
  intro x h
  induction h with
  | @last x h hp _ =>
    refine ⟨y, h, Nat.le_refl _, zzPart_run s hs x y (by omega) hy (by rcases hend with h | h; exact .inl h; exact .inr h.1) hp, ?_⟩
    refine Ev.step (fun k => by rw [semver_zzParts.l0]) ?_
    rcases hend with h | h
    · exact Ev.neg (by omega) (hnoj y)
    · by_cases c : y < s.size
      · exact Ev.pos (by omega) (Ev.pos (by omega) (Ev.neg h.2 (hnoj y)))
      · exact Ev.neg (by omega) (hnoj y)
  | @more x z h hz hp _ hd r ih =>
    obtain ⟨z2, h1, h2, h3, h4⟩ := ih
    have e1 : wrap64 ((z : Int) + 1) = ((z + 1 : Nat) : Int) := by rw [w64_in (by omega) (by omega)]; omega
    refine ⟨z, h, by omega, zzPart_run s hs x z (by omega) (by omega) (.inr (by rw [hd]; exact dot_notP)) hp, ?_⟩
    refine Ev.step (fun k => by rw [semver_zzParts.l0]) (Ev.pos (by omega) (Ev.pos (by omega) (Ev.pos hd ?_)))
    rw [e1]
    refine Ev.bind h3 ?_
    rw [decide_eq_true (by omega)]
    refine Ev.step (fun k => by rw [semver_zzParts.j2]) (Ev.pos rfl ?_)
    rw [e1]
    exact Ev.bind h3 h4
theorem zzParts_run (s : ByteArray) (hs : s.size ≤ 100000) (strict : Bool) (i y : Nat) (c : Int) (hi : i < s.size) (hc : bt s (i : Int) = c) (hy : y ≤ s.size) (hend : y = s.size ∨ (¬ isP (bt s (y : Int)) ∧ bt s (y : Int) ≠ 46)) (h : PF s strict y (i + 1)) : Ev (fun k => semver_zzParts.f k s (i : Int) c) (y : Int) := by
  obtain ⟨z, h1, h2, h3, h4⟩ := zzParts_l s hs strict y hy hend h
  have e1 : wrap64 ((i : Int) + 1) = ((i + 1 : Nat) : Int) := by rw [w64_in (by omega) (by omega)]; omega
  unfold semver_zzParts.f
  refine Ev.neg (by omega) (Ev.pos (by omega) (Ev.pos (by omega) ?_))
  rw [hc, bne_self_eq_false]
  refine Ev.step (fun k => by rw [semver_zzParts.j0]) (Ev.neg (by decide) ?_)
  rw [e1]
  exact Ev.bind h3 (Ev.neg (by omega) h4)
theorem zzParts_none (s : ByteArray) (i : Nat) (c : Int) (h : i = s.size ∨ (i < s.size ∧ bt s (i : Int) ≠ c)) : Ev (fun k => semver_zzParts.f k s (i : Int) c) (i : Int) := by
  have hj : Ev (fun k => semver_zzParts.j0 k s (i : Int) true) (i : Int) := Ev.step (fun k => by rw [semver_zzParts.j0]) (Ev.pos rfl (Ev.ok _))
  unfold semver_zzParts.f
  rcases h with h | ⟨h1, h2⟩
  · exact Ev.pos (by omega) hj
  · refine Ev.neg (by omega) (Ev.pos (by omega) (Ev.pos (by omega) ?_))
    rw [bne_iff_ne.2 h2]
    exact hj

/-! ### spec.onlyDigits, spec.parts -/
theorem onlyD_l (p : ByteArray) (hp : p.size ≤ 100000) : ∀ n i : Nat, i + n = p.size → ∃ b : Bool, Ev (fun k => spec_onlyDigits.l0 k p (i : Int)) b ∧ (b = true ↔ ∀ j, i ≤ j → j < p.size → isD (bt p (j : Int)))
  | 0, i, hn => ⟨true, Ev.step (fun k => by rw [spec_onlyDigits.l0]) (Ev.neg (by omega) (Ev.ok _)), fun _ j h1 h2 => by omega, fun _ => rfl⟩
  | n + 1, i, hn => by
    obtain ⟨b, hb, hbi⟩ := onlyD_l p hp n (i + 1) (by omega)
    by_cases c1 : bt p (i : Int) < 48
    · refine ⟨false, Ev.step (fun k => by rw [spec_onlyDigits.l0]) (Ev.pos (by omega) (Ev.pos (by omega) (Ev.pos c1 (Ev.ok _)))), (fun h => by cases h), fun h => ?_⟩
      have := (h i (Nat.le_refl _) (by omega)).1
      omega
    · by_cases c2 : bt p (i : Int) > 57
      · refine ⟨false, Ev.step (fun k => by rw [spec_onlyDigits.l0]) (Ev.pos (by omega) (Ev.pos (by omega) (Ev.neg c1 (Ev.pos c2 (Ev.ok _))))), (fun h => by cases h), fun h => ?_⟩
        have := (h i (Nat.le_refl _) (by omega)).2
        omega
      · refine ⟨b, Ev.step (fun k => by rw [spec_onlyDigits.l0]) (Ev.pos (by omega) (Ev.pos (by omega) (Ev.neg c1 (Ev.neg c2 (by rw [w64_in (by omega) (by omega)]; exact hb))))), fun h j h1 h2 => ?_, fun h => hbi.2 fun j h1 h2 => h j (by omega) h2⟩
        by_cases hj : j = i
        · subst hj
          exact ⟨by omega, by omega⟩
        · exact hbi.1 h j (by omega) h2
theorem onlyD (p : ByteArray) (hp : p.size ≤ 100000) : ∃ b : Bool, Ev (fun k => spec_onlyDigits.f k p) b ∧ (b = true ↔ ∀ j, j < p.size → isD (bt p (j : Int))) := by
  obtain ⟨b, h1, h2⟩ := onlyD_l p hp p.size 0 (by omega)
  exact ⟨b, by unfold spec_onlyDigits.f; exact h1, h2.trans ⟨fun h j hj => h j (Nat.zero_le _) hj, fun h j _ hj => h j hj⟩⟩
theorem PF_stop {s : ByteArray} {strict : Bool} {y f i : Nat} (hpre : ∀ j, f ≤ j → j < i → isP (bt s (j : Int))) (hi : i = y ∨ (i < y ∧ bt s (i : Int) = 46)) (hfi : f ≤ i) :
    PF s strict y f ↔ f < i ∧ (strict = true → okSeg s f i) ∧ (i = y ∨ PF s strict y (i + 1)) := by
  constructor
  · intro h
    cases h with
    | last h hp hs =>
      rcases hi with hi | ⟨hi, hd⟩
      · subst hi
        exact ⟨h, hs, .inl rfl⟩
      · have := hp i hfi hi
        rw [hd] at this
        exact absurd this dot_notP
    | @more _ z h hz hp hs hd r =>
      rcases Nat.lt_trichotomy z i with c | c | c
      · have := hpre z (by omega) c
        rw [hd] at this
        exact absurd this dot_notP
      · subst c
        exact ⟨h, hs, .inr r⟩
      · have := hp i hfi c
        rcases hi with hi | ⟨hi, hd'⟩
        · omega
        · rw [hd'] at this
          exact absurd this dot_notP
  · rintro ⟨h1, h2, h3⟩
    rcases hi with hi | ⟨hi, hd⟩
    · subst hi
      exact PF.last h1 hpre h2
    · rcases h3 with h3 | h3
      · omega
      · exact PF.more h1 hi hpre h2 hd h3
theorem parts_char (p : ByteArray) (strict : Bool) (f i : Nat) (hi : i < p.size) (b : Bool) (hno : ¬ isP (bt p (i : Int)) → b = false) (hyes : isP (bt p (i : Int)) → Ev (fun k => spec_parts.l0 k p strict (f : Int) (wrap64 ((i : Int) + 1))) b) :
    Ev (fun k => spec_parts.j1 k p strict (f : Int) (i : Int) true) b := by
  have hf : b = false → Ev (fun k => spec_parts.j2 k p strict (f : Int) (i : Int) true) b := fun h => by
    rw [h]; exact Ev.step (fun k => by rw [spec_parts.j2]) (Ev.pos rfl (Ev.ok _))
  have ht : Ev (fun k => spec_parts.l0 k p strict (f : Int) (wrap64 ((i : Int) + 1))) b → Ev (fun k => spec_parts.j2 k p strict (f : Int) (i : Int) (!true)) b := fun h =>
    Ev.step (fun k => by rw [spec_parts.j2]) (Ev.neg (by decide) h)
  have h45 : (bt p (i : Int) = 45 ∨ ¬ isP (bt p (i : Int))) → Ev (fun k => spec_parts.j2 k p strict (f : Int) (i : Int) (!(bt p (i : Int) == 45))) b := fun h => by
    by_cases c : bt p (i : Int) = 45
    · rw [beq_iff_eq.2 c]
      exact ht (hyes (.inr (.inr (.inr c))))
    · rw [beq_eq_false_iff_ne.2 c]
      rcases h with h | h
      · exact absurd h c
      · exact hf (hno h)
  refine Ev.step (fun k => by rw [spec_parts.j1]) (Ev.pos rfl (Ev.pos (by omega) (Ev.pos (by omega) ?_)))
  by_cases c1 : bt p (i : Int) ≥ 48
  · refine Ev.pos c1 ?_
    by_cases c4 : bt p (i : Int) ≤ 57
    · exact Ev.pos c4 (ht (hyes (.inl ⟨c1, c4⟩)))
    · refine Ev.neg c4 ?_
      by_cases c2 : bt p (i : Int) ≥ 97
      · refine Ev.pos c2 ?_
        by_cases c5 : bt p (i : Int) ≤ 122
        · exact Ev.pos c5 (ht (hyes (.inr (.inl ⟨c2, c5⟩))))
        · exact Ev.neg c5 (Ev.pos (by omega) (Ev.neg (by omega) (h45 (.inr (by unfold isP; omega)))))
      · refine Ev.neg c2 ?_
        by_cases c3 : bt p (i : Int) ≥ 65
        · refine Ev.pos c3 ?_
          by_cases c5 : bt p (i : Int) ≤ 90
          · exact Ev.pos c5 (ht (hyes (.inr (.inr (.inl ⟨c3, c5⟩)))))
          · exact Ev.neg c5 (h45 (.inr (by unfold isP; omega)))
        · exact Ev.neg c3 (h45 (.inr (by unfold isP; omega)))
  · refine Ev.neg c1 (Ev.neg (by omega) (Ev.neg (by omega) (h45 ?_)))
    by_cases c : bt p (i : Int) = 45
    · exact .inl c
    · exact .inr (by unfold isP; omega)
/-- spec.parts from a loop's place on. -/
theorem parts_l (p : ByteArray) (hp : p.size ≤ 100000) (strict : Bool) : ∀ n f i : Nat, i + n = p.size + 1 → f ≤ i → (∀ j, f ≤ j → j < i → isP (bt p (j : Int))) →
    ∃ b : Bool, Ev (fun k => spec_parts.l0 k p strict (f : Int) (i : Int)) b ∧ (i = p.size + 1 → b = true) ∧ (i ≤ p.size → (b = true ↔ PF p strict p.size f))
  | 0, f, i, hn, hf, _ => ⟨true, Ev.step (fun k => by rw [spec_parts.l0]) (Ev.neg (by omega) (Ev.ok _)), fun _ => rfl, fun h => by omega⟩
  | n + 1, f, i, hn, hf, hpre => by
    have e1 : wrap64 ((i : Int) + 1) = ((i + 1 : Nat) : Int) := by rw [w64_in (by omega) (by omega)]; omega
    have hstop : (i = p.size ∨ (i < p.size ∧ bt p (i : Int) = 46)) → ∃ b : Bool, Ev (fun k => spec_parts.j1 k p strict (f : Int) (i : Int) false) b ∧ (b = true ↔ PF p strict p.size f) := by
      intro hi
      have hiff := PF_stop (strict := strict) hpre hi hf
      obtain ⟨b, hb, hb1, hb2⟩ := parts_l p hp strict n (i + 1) (i + 1) (by omega) (Nat.le_refl _) (fun j h1 h2 => by omega)
      have hgo : Ev (fun k => spec_parts.j3 k p strict (i : Int) false) b := Ev.step (fun k => by rw [spec_parts.j3]) (Ev.neg (by decide) (by rw [e1]; exact hb))
      have hno : Ev (fun k => spec_parts.j3 k p strict (i : Int) true) false := Ev.step (fun k => by rw [spec_parts.j3]) (Ev.pos rfl (Ev.ok _))
      have hbi : b = true ↔ (i = p.size ∨ PF p strict p.size (i + 1)) := by
        by_cases c : i = p.size
        · exact ⟨fun _ => .inl c, fun _ => hb1 (by omega)⟩
        · have := hb2 (by omega)
          exact ⟨fun h => .inr (this.1 h), fun h => by rcases h with h | h; exact absurd h c; exact this.2 h⟩
      by_cases c1 : i = f
      · refine ⟨false, Ev.step (fun k => by rw [spec_parts.j1]) (Ev.neg (by decide) (Ev.pos (by omega) hno)), (fun h => by cases h), fun h => ?_⟩
        have := (hiff.1 h).1
        omega
      · have hgood : ((strict = true → okSeg p f i)) → (b = true ↔ PF p strict p.size f) := fun h => hbi.trans ⟨fun q => hiff.2 ⟨by omega, h, q⟩, fun q => (hiff.1 q).2.2⟩
        cases hst : strict with
        | false =>
          subst hst
          exact ⟨b, Ev.step (fun k => by rw [spec_parts.j1]) (Ev.neg (by decide) (Ev.neg (by omega) (Ev.neg (by decide) hgo))), hgood (fun h => by cases h)⟩
        | true =>
          subst hst
          have e2 : wrap64 ((f : Int) + 1) = ((f + 1 : Nat) : Int) := by rw [w64_in (by omega) (by omega)]; omega
          have hz : p.size ≤ 100000 := hp
          by_cases c2 : (i : Int) > wrap64 ((f : Int) + 1)
          · have c2' : f + 1 < i := by rw [e2] at c2; omega
            by_cases c3 : bt p (f : Int) = 48
            · have hzx : (p.extract f i).size = i - f := ext_size _ _ _ (by omega)
              obtain ⟨d, hd, hdi⟩ := onlyD (p.extract f i) (by rw [hzx]; omega)
              have hdd : d = true ↔ ∀ j, f ≤ j → j < i → isD (bt p (j : Int)) := by
                rw [hdi, hzx]
                constructor
                · intro h j h1 h2
                  have := h (j - f) (by omega)
                  rw [bt_ext p f i (j - f) (by omega), show f + (j - f) = j by omega] at this
                  exact this
                · intro h j h1
                  rw [bt_ext p f i j (by omega)]
                  exact h (f + j) (by omega) (by omega)
              have hx : ∀ r : Bool, Ev (fun k => spec_parts.j3 k p true (i : Int) d) r → Ev (fun k => spec_parts.j1 k p true (f : Int) (i : Int) false) r := by
                intro r hr
                refine Ev.step (fun k => by rw [spec_parts.j1]) ?_
                refine Ev.neg (by decide) (Ev.neg (by omega) (Ev.pos rfl (Ev.pos c2 (Ev.pos (by omega) (Ev.pos (by omega) (Ev.pos c3 (Ev.pos (by omega) (Ev.pos (by omega) ?_))))))))
                rw [Int.toNat_natCast, Int.toNat_natCast]
                exact Ev.bind hd hr
              cases d with
              | true =>
                refine ⟨false, hx _ hno, (fun h => by cases h), fun h => ?_⟩
                exact absurd (hdd.1 rfl) ((hiff.1 h).2.1 rfl c2' c3)
              | false => exact ⟨b, hx _ hgo, hgood (fun _ _ _ h => by have := hdd.2 h; cases this)⟩
            · exact ⟨b, Ev.step (fun k => by rw [spec_parts.j1]) (Ev.neg (by decide) (Ev.neg (by omega) (Ev.pos rfl (Ev.pos c2 (Ev.pos (by omega) (Ev.pos (by omega) (Ev.neg c3 hgo))))))), hgood (fun _ _ h => absurd h c3)⟩
          · exact ⟨b, Ev.step (fun k => by rw [spec_parts.j1]) (Ev.neg (by decide) (Ev.neg (by omega) (Ev.pos rfl (Ev.neg c2 hgo)))), hgood (fun _ h => by rw [e2] at c2; omega)⟩
    by_cases c0 : i = p.size
    · obtain ⟨b, hb, hbi⟩ := hstop (.inl c0)
      exact ⟨b, Ev.step (fun k => by rw [spec_parts.l0]) (Ev.pos (by omega) (Ev.neg (by omega) hb)), fun h => by omega, fun _ => hbi⟩
    · have hlt : i < p.size := by omega
      by_cases c1 : bt p (i : Int) = 46
      · obtain ⟨b, hb, hbi⟩ := hstop (.inr ⟨hlt, c1⟩)
        refine ⟨b, Ev.step (fun k => by rw [spec_parts.l0]) (Ev.pos (by omega) (Ev.pos (by omega) (Ev.pos (by omega) ?_))), fun h => by omega, fun _ => hbi⟩
        rw [c1]
        exact hb
      · have hl0 : ∀ b : Bool, Ev (fun k => spec_parts.j1 k p strict (f : Int) (i : Int) true) b → Ev (fun k => spec_parts.l0 k p strict (f : Int) (i : Int)) b := fun b hb => by
          refine Ev.step (fun k => by rw [spec_parts.l0]) (Ev.pos (by omega) (Ev.pos (by omega) (Ev.pos (by omega) ?_)))
          rw [bne_iff_ne.2 c1]
          exact hb
        by_cases c2 : isP (bt p (i : Int))
        · obtain ⟨b, hb, _, hb2⟩ := parts_l p hp strict n f (i + 1) (by omega) (by omega) (fun j h1 h2 => by
            by_cases hj : j = i
            · subst hj; exact c2
            · exact hpre j h1 (by omega))
          exact ⟨b, hl0 b (parts_char p strict f i hlt b (fun h => absurd c2 h) (fun _ => by rw [e1]; exact hb)), fun h => by omega, fun _ => hb2 (by omega)⟩
        · refine ⟨false, hl0 _ (parts_char p strict f i hlt false (fun _ => rfl) (fun h => absurd h c2)), fun h => by omega, fun _ => ⟨(fun h => by cases h), fun h => ?_⟩⟩
          cases h with
          | last h hp' _ => exact absurd (hp' i hf hlt) c2
          | @more _ z h hz hp' _ hd _ =>
            rcases Nat.lt_trichotomy z i with c | c | c
            · have := hpre z (by omega) c
              rw [hd] at this
              exact absurd this dot_notP
            · subst c
              exact absurd hd c1
            · exact absurd (hp' i hf c) c2
theorem parts_ev (p : ByteArray) (hp : p.size ≤ 100000) (strict : Bool) : ∃ b : Bool, Ev (fun k => spec_parts.f k p strict) b ∧ (b = true ↔ PF p strict p.size 0) := by
  obtain ⟨b, h1, _, h2⟩ := parts_l p hp strict (p.size + 1) 0 0 (by omega) (Nat.le_refl _) (fun j _ h => by omega)
  exact ⟨b, by unfold spec_parts.f; exact h1, h2 (Nat.zero_le _)⟩
/-- Parts of a cut are parts of the whole. -/
theorem okSeg_ext {s : ByteArray} {a b x z : Nat} (h : a + z ≤ b) : okSeg (s.extract a b) x z ↔ okSeg s (a + x) (a + z) := by
  unfold okSeg
  constructor
  · intro q h1 h2 h3
    refine q (by omega) (by rw [bt_ext s a b x (by omega)]; exact h2) (fun j hj1 hj2 => ?_)
    rw [bt_ext s a b j (by omega)]
    exact h3 (a + j) (by omega) (by omega)
  · intro q h1 h2 h3
    refine q (by omega) (by rw [bt_ext s a b x (by omega)] at h2; exact h2) (fun j hj1 hj2 => ?_)
    have := h3 (j - a) (by omega) (by omega)
    rw [bt_ext s a b (j - a) (by omega), show a + (j - a) = j by omega] at this
    exact this
theorem PF_ext {s : ByteArray} {strict : Bool} {a b y : Nat} (h : a + y ≤ b) : ∀ {x : Nat}, PF (s.extract a b) strict y x → PF s strict (a + y) (a + x) := by
  intro x hx
  induction hx with
  | last h1 hp hs =>
    refine PF.last (by omega) (fun j hj1 hj2 => ?_) (fun q => (okSeg_ext h).1 (hs q))
    have := hp (j - a) (by omega) (by omega)
    rw [bt_ext s a b (j - a) (by omega), show a + (j - a) = j by omega] at this
    exact this
  | @more x z h1 hz hp hs hd r ih =>
    refine PF.more (z := a + z) (by omega) (by omega) (fun j hj1 hj2 => ?_) (fun q => (okSeg_ext (by omega)).1 (hs q)) (by rw [bt_ext s a b z (by omega)] at hd; exact hd) ih
    have := hp (j - a) (by omega) (by omega)
    rw [bt_ext s a b (j - a) (by omega), show a + (j - a) = j by omega] at this
    exact this
theorem PF_cut {s : ByteArray} {strict : Bool} {a b y' : Nat} (h : y' ≤ b) : ∀ {x' : Nat}, PF s strict y' x' → a ≤ x' → PF (s.extract a b) strict (y' - a) (x' - a) := by
  intro x hx
  induction hx with
  | @last x h1 hp hs =>
    intro ha
    refine PF.last (by omega) (fun j hj1 hj2 => ?_) (fun q => (okSeg_ext (by omega)).2 (by rw [show a + (x - a) = x by omega, show a + (y' - a) = y' by omega]; exact hs q))
    rw [bt_ext s a b j (by omega)]
    exact hp (a + j) (by omega) (by omega)
  | @more x z h1 hz hp hs hd r ih =>
    intro ha
    refine PF.more (z := z - a) (by omega) (by omega) (fun j hj1 hj2 => ?_) (fun q => (okSeg_ext (by omega)).2 (by rw [show a + (x - a) = x by omega, show a + (z - a) = z by omega]; exact hs q)) (by rw [bt_ext s a b (z - a) (by omega), show a + (z - a) = z by omega]; exact hd) ?_
    · rw [bt_ext s a b j (by omega)]
      exact hp (a + j) (by omega) (by omega)
    · have := ih (by omega)
      rw [show z + 1 - a = z - a + 1 by omega] at this
      exact this
end Go.Proofs.YtlhijjfbcgconaaDoor.P

