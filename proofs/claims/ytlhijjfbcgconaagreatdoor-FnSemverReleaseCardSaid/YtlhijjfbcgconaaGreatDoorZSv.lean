/- Texts joined: Sv1, Sv2, Sv3, Sv4, Sv5, Sv6. -/
import Derived.Test.YtlhijjfbcgconaaGreatDoorZPx9
import Derived.Test.YtlhijjfbcgconaaGreatDoorZPx13
import Derived.Test.YtlhijjfbcgconaaGreatDoorZPx4
import Derived.Test.YtlhijjfbcgconaaGreatDoorZXw
import Derived.Lib.Hide
import Derived.IntWalk
import Derived.Test.YtlhijjfbcgconaaGreatDoorZPx14
import Derived.Lib.ParseIntBTie
import Derived.Test.YtlhijjfbcgconaaGreatDoorZPx11
import Derived.Test.YtlhijjfbcgconaaGreatDoorZSh
import Derived.StillTailTactics

/- Versions, plain: runs of digits, parts with points between; what the printed functions zzDigits, zzPart, zzParts, number, parts give. -/
set_option linter.unusedVariables false
set_option linter.unusedSimpArgs false
namespace Go.Proofs.YtlhijjfbcgconaaGreatDoor.P
open Go.RowKit Go.Proofs.YtlhijjfbcgconaaGreatDoorW.PrintWords Go.Proofs.YtlhijjfbcgconaaGreatDoorW.PrintLast Go.Proofs.YtlhijjfbcgconaaGreatDoorW.PrintMore

/-! ### bytes -/
theorem list_get (s : ByteArray) (j : Nat) (h : j < s.size) : s.data.toList[j]? = some (s[j]'h) := by
  have h2 : j < s.data.toList.length := by rw [Array.length_toList]; exact h
  rw [List.getElem?_eq_getElem h2]
  rfl
theorem bt_opt (s : ByteArray) (j : Nat) : bt s (j : Int) = match s.data.toList[j]? with | some b => ((b.toNat : Nat) : Int) | none => 0 := by
  by_cases h : j < s.size
  · rw [list_get s j h, bt_nat s j h]
  · rw [List.getElem?_eq_none (by rw [Array.length_toList]; exact Nat.le_of_not_lt h)]
    unfold bt
    rw [dif_neg (by simpa using h)]
theorem ext_size (s : ByteArray) (a b : Nat) (h : b ≤ s.size) : (s.extract a b).size = b - a := by rw [ByteArray.size_extract]; omega
theorem bt_ext (s : ByteArray) (a b j : Nat) (h : a + j < b) : bt (s.extract a b) (j : Int) = bt s ((a + j : Nat) : Int) := by
  rw [bt_opt, bt_opt, extract_list, List.getElem?_take, if_pos (by omega), List.getElem?_drop]
theorem ext_ext (s : ByteArray) (a b x y : Nat) (h : a + y ≤ b) : (s.extract a b).extract x y = s.extract (a + x) (a + y) := by
  apply ba_ext
  rw [extract_list, extract_list, extract_list, List.drop_take, List.drop_drop, List.take_take]
  congr 1
  omega
theorem ext_all (s : ByteArray) : s.extract 0 s.size = s := by
  apply ba_ext
  rw [extract_list, List.drop_zero, Nat.sub_zero]
  exact List.take_of_length_le (by rw [size_list]; exact Nat.le_refl _)
theorem ext_nil (s : ByteArray) (a : Nat) : s.extract a a = ⟨#[]⟩ := by
  apply ba_ext
  rw [extract_list, Nat.sub_self, List.take_zero]

/-! ### digits and parts -/
def isD (x : Int) : Prop := 48 ≤ x ∧ x ≤ 57
def isP (x : Int) : Prop := (48 ≤ x ∧ x ≤ 57) ∨ (97 ≤ x ∧ x ≤ 122) ∨ (65 ≤ x ∧ x ≤ 90) ∨ x = 45
instance (x : Int) : Decidable (isD x) := by unfold isD; infer_instance
instance (x : Int) : Decidable (isP x) := by unfold isP; infer_instance
theorem isD_isP {x : Int} (h : isD x) : isP x := .inl h
theorem zzDigits_l (s : ByteArray) (hs : s.size ≤ 100000) (e : Nat) (he : e ≤ s.size) (hend : e = s.size ∨ ¬ isD (bt s (e : Int))) : ∀ n i : Nat, i + n = e → (∀ j, i ≤ j → j < e → isD (bt s (j : Int))) → Ev (fun k => semver_zzDigits.l0 k s (i : Int)) (e : Int)
  | 0, i, hn, _ => by
    obtain rfl : i = e := by omega
    refine Ev.step (fun k => by rw [semver_zzDigits.l0]) ?_
    rcases hend with h | h
    · refine Ev.neg (by omega) (Ev.step (fun k => by rw [semver_zzDigits.j1]) (Ev.neg (by decide) (Ev.ok _)))
    · by_cases hlt : i < s.size
      · refine Ev.pos (by omega) (Ev.pos (by omega) ?_)
        unfold isD at h
        by_cases c : bt s (i : Int) ≥ 48
        · refine Ev.pos c (Ev.step (fun k => by rw [semver_zzDigits.j1]) (Ev.neg ?_ (Ev.ok _)))
          rw [decide_eq_true_eq]
          omega
        · exact Ev.neg c (Ev.step (fun k => by rw [semver_zzDigits.j1]) (Ev.neg (by decide) (Ev.ok _)))
      · exact Ev.neg (by omega) (Ev.step (fun k => by rw [semver_zzDigits.j1]) (Ev.neg (by decide) (Ev.ok _)))
  | n + 1, i, hn, hd => by
    have h1 := hd i (Nat.le_refl _) (by omega)
    have ih := zzDigits_l s hs e he hend n (i + 1) (by omega) (fun j h2 h3 => hd j (by omega) h3)
    refine Ev.step (fun k => by rw [semver_zzDigits.l0]) (Ev.pos (by omega) (Ev.pos (by omega) (Ev.pos h1.1 (Ev.step (fun k => by rw [semver_zzDigits.j1]) (Ev.pos (decide_eq_true h1.2) ?_)))))
    rw [w64_in (by omega) (by omega)]
    exact ih
theorem zzDigits_run (s : ByteArray) (hs : s.size ≤ 100000) (i e : Nat) (hi : i ≤ e) (he : e ≤ s.size) (hend : e = s.size ∨ ¬ isD (bt s (e : Int))) (hd : ∀ j, i ≤ j → j < e → isD (bt s (j : Int))) : Ev (fun k => semver_zzDigits.f k s (i : Int)) (e : Int) := by
  unfold semver_zzDigits.f
  exact zzDigits_l s hs e he hend (e - i) i (by omega) hd
theorem zzPart_l (s : ByteArray) (hs : s.size ≤ 100000) (e : Nat) (he : e ≤ s.size) (hend : e = s.size ∨ ¬ isP (bt s (e : Int))) : ∀ n i : Nat, i + n = e → (∀ j, i ≤ j → j < e → isP (bt s (j : Int))) → Ev (fun k => semver_zzPart.l0 k s (i : Int)) (e : Int)
  | 0, i, hn, _ => by
    obtain rfl : i = e := by omega
    have hno : Ev (fun k => semver_zzPart.j1 k s (i : Int) false) (i : Int) := Ev.step (fun k => by rw [semver_zzPart.j1]) (Ev.neg (by decide) (Ev.ok _))
    have hno2 : bt s (i : Int) ≠ 45 → Ev (fun k => semver_zzPart.j1 k s (i : Int) (bt s (i : Int) == 45)) (i : Int) := fun h => by
      rw [beq_eq_false_iff_ne.2 h]; exact hno
    refine Ev.step (fun k => by rw [semver_zzPart.l0]) ?_
    rcases hend with h | h
    · exact Ev.neg (by omega) hno
    · by_cases hlt : i < s.size
      · refine Ev.pos (by omega) (Ev.pos (by omega) ?_)
        unfold isP at h
        have h45 : bt s (i : Int) ≠ 45 := fun q => h (.inr (.inr (.inr q)))
        by_cases c1 : bt s (i : Int) ≥ 48
        · refine Ev.pos c1 (Ev.neg (by omega) ?_)
          by_cases c2 : bt s (i : Int) ≥ 97
          · refine Ev.pos c2 (Ev.neg (by omega) ?_)
            exact Ev.pos (by omega) (Ev.neg (by omega) (hno2 h45))
          · refine Ev.neg c2 ?_
            by_cases c3 : bt s (i : Int) ≥ 65
            · exact Ev.pos c3 (Ev.neg (by omega) (hno2 h45))
            · exact Ev.neg c3 (hno2 h45)
        · exact Ev.neg c1 (Ev.neg (by omega) (Ev.neg (by omega) (hno2 h45)))
      · exact Ev.neg (by omega) hno
  | n + 1, i, hn, hd => by
    have h1 := hd i (Nat.le_refl _) (by omega)
    have ih := zzPart_l s hs e he hend n (i + 1) (by omega) (fun j h2 h3 => hd j (by omega) h3)
    have hyes : Ev (fun k => semver_zzPart.j1 k s (i : Int) true) (e : Int) := Ev.step (fun k => by rw [semver_zzPart.j1]) (Ev.pos rfl (by rw [w64_in (by omega) (by omega)]; exact ih))
    refine Ev.step (fun k => by rw [semver_zzPart.l0]) (Ev.pos (by omega) (Ev.pos (by omega) ?_))
    unfold isP at h1
    by_cases c1 : bt s (i : Int) ≥ 48
    · refine Ev.pos c1 ?_
      by_cases c4 : bt s (i : Int) ≤ 57
      · exact Ev.pos c4 hyes
      · refine Ev.neg c4 ?_
        by_cases c2 : bt s (i : Int) ≥ 97
        · exact Ev.pos c2 (Ev.pos (by omega) hyes)
        · exact Ev.neg c2 (Ev.pos (by omega) (Ev.pos (by omega) hyes))
    · have h45 : bt s (i : Int) = 45 := by omega
      refine Ev.neg c1 (Ev.neg (by omega) (Ev.neg (by omega) ?_))
      rw [beq_iff_eq.2 h45]
      exact hyes
theorem zzPart_run (s : ByteArray) (hs : s.size ≤ 100000) (i e : Nat) (hi : i ≤ e) (he : e ≤ s.size) (hend : e = s.size ∨ ¬ isP (bt s (e : Int))) (hd : ∀ j, i ≤ j → j < e → isP (bt s (j : Int))) : Ev (fun k => semver_zzPart.f k s (i : Int)) (e : Int) := by
  unfold semver_zzPart.f
  exact zzPart_l s hs e he hend (e - i) i (by omega) hd
/-- No number with zeros ahead. -/
def okSeg (s : ByteArray) (x z : Nat) : Prop := x + 1 < z → bt s (x : Int) = 48 → ¬ ∀ j, x ≤ j → j < z → isD (bt s (j : Int))
/-- From a place on up to y: parts with points between. -/
inductive PF (s : ByteArray) (strict : Bool) (y : Nat) : Nat → Prop
  | last {x : Nat} (h : x < y) (hp : ∀ j, x ≤ j → j < y → isP (bt s (j : Int))) (hs : strict = true → okSeg s x y) : PF s strict y x
  | more {x z : Nat} (h : x < z) (hz : z < y) (hp : ∀ j, x ≤ j → j < z → isP (bt s (j : Int))) (hs : strict = true → okSeg s x z) (hd : bt s (z : Int) = 46) (r : PF s strict y (z + 1)) : PF s strict y x
theorem dot_notP : ¬ isP 46 := by unfold isP; omega
theorem PF.lt {s : ByteArray} {strict : Bool} {y x : Nat} (h : PF s strict y x) : x < y := by
  cases h with
  | last h _ _ => exact h
  | more h hz _ _ _ _ => omega
theorem zzParts_l (s : ByteArray) (hs : s.size ≤ 100000) (strict : Bool) (y : Nat) (hy : y ≤ s.size) (hend : y = s.size ∨ (¬ isP (bt s (y : Int)) ∧ bt s (y : Int) ≠ 46)) : ∀ {x : Nat}, PF s strict y x → ∃ z : Nat, x < z ∧ z ≤ y ∧ Ev (fun k => semver_zzPart.f k s (x : Int)) (z : Int) ∧ Ev (fun k => semver_zzParts.l0 k s (z : Int)) (y : Int) := by
  have hnoj : ∀ z : Nat, Ev (fun k => semver_zzParts.j2 k s (z : Int) false) (z : Int) := fun z => Ev.step (fun k => by rw [semver_zzParts.j2]) (Ev.neg (by decide) (Ev.ok _))
  intro x h
  induction h with
  | @last x h hp _ =>
    refine ⟨y, h, Nat.le_refl _, zzPart_run s hs x y (by omega) hy (by rcases hend with h | h; exact .inl h; exact .inr h.1) hp, ?_⟩
    refine Ev.step (fun k => by rw [semver_zzParts.l0]) ?_
    rcases hend with h | h
    · exact Ev.neg (by omega) (hnoj y)
    · by_cases c : y < s.size
      · exact Ev.pos (by omega) (Ev.pos (by omega) (Ev.neg h.2 (hnoj y)))
      · exact Ev.neg (by omega) (hnoj y)
  | @more x z h hz hp _ hd r ih =>
    obtain ⟨z2, h1, h2, h3, h4⟩ := ih
    have e1 : wrap64 ((z : Int) + 1) = ((z + 1 : Nat) : Int) := by rw [w64_in (by omega) (by omega)]; omega
    refine ⟨z, h, by omega, zzPart_run s hs x z (by omega) (by omega) (.inr (by rw [hd]; exact dot_notP)) hp, ?_⟩
    refine Ev.step (fun k => by rw [semver_zzParts.l0]) (Ev.pos (by omega) (Ev.pos (by omega) (Ev.pos hd ?_)))
    rw [e1]
    refine Ev.bind h3 ?_
    rw [decide_eq_true (by omega)]
    refine Ev.step (fun k => by rw [semver_zzParts.j2]) (Ev.pos rfl ?_)
    rw [e1]
    exact Ev.bind h3 h4
theorem zzParts_run (s : ByteArray) (hs : s.size ≤ 100000) (strict : Bool) (i y : Nat) (c : Int) (hi : i < s.size) (hc : bt s (i : Int) = c) (hy : y ≤ s.size) (hend : y = s.size ∨ (¬ isP (bt s (y : Int)) ∧ bt s (y : Int) ≠ 46)) (h : PF s strict y (i + 1)) : Ev (fun k => semver_zzParts.f k s (i : Int) c) (y : Int) := by
  obtain ⟨z, h1, h2, h3, h4⟩ := zzParts_l s hs strict y hy hend h
  have e1 : wrap64 ((i : Int) + 1) = ((i + 1 : Nat) : Int) := by rw [w64_in (by omega) (by omega)]; omega
  unfold semver_zzParts.f
  refine Ev.neg (by omega) (Ev.pos (by omega) (Ev.pos (by omega) ?_))
  rw [hc, bne_self_eq_false]
  refine Ev.step (fun k => by rw [semver_zzParts.j0]) (Ev.neg (by decide) ?_)
  rw [e1]
  exact Ev.bind h3 (Ev.neg (by omega) h4)
theorem zzParts_none (s : ByteArray) (i : Nat) (c : Int) (h : i = s.size ∨ (i < s.size ∧ bt s (i : Int) ≠ c)) : Ev (fun k => semver_zzParts.f k s (i : Int) c) (i : Int) := by
  have hj : Ev (fun k => semver_zzParts.j0 k s (i : Int) true) (i : Int) := Ev.step (fun k => by rw [semver_zzParts.j0]) (Ev.pos rfl (Ev.ok _))
  unfold semver_zzParts.f
  rcases h with h | ⟨h1, h2⟩
  · exact Ev.pos (by omega) hj
  · refine Ev.neg (by omega) (Ev.pos (by omega) (Ev.pos (by omega) ?_))
    rw [bne_iff_ne.2 h2]
    exact hj

/-! ### spec.onlyDigits, spec.parts -/
theorem onlyD_l (p : ByteArray) (hp : p.size ≤ 100000) : ∀ n i : Nat, i + n = p.size → ∃ b : Bool, Ev (fun k => spec_onlyDigits.l0 k p (i : Int)) b ∧ (b = true ↔ ∀ j, i ≤ j → j < p.size → isD (bt p (j : Int)))
  | 0, i, hn => ⟨true, Ev.step (fun k => by rw [spec_onlyDigits.l0]) (Ev.neg (by omega) (Ev.ok _)), fun _ j h1 h2 => by omega, fun _ => rfl⟩
  | n + 1, i, hn => by
    obtain ⟨b, hb, hbi⟩ := onlyD_l p hp n (i + 1) (by omega)
    by_cases c1 : bt p (i : Int) < 48
    · refine ⟨false, Ev.step (fun k => by rw [spec_onlyDigits.l0]) (Ev.pos (by omega) (Ev.pos (by omega) (Ev.pos c1 (Ev.ok _)))), (fun h => by cases h), fun h => ?_⟩
      have := (h i (Nat.le_refl _) (by omega)).1
      omega
    · by_cases c2 : bt p (i : Int) > 57
      · refine ⟨false, Ev.step (fun k => by rw [spec_onlyDigits.l0]) (Ev.pos (by omega) (Ev.pos (by omega) (Ev.neg c1 (Ev.pos c2 (Ev.ok _))))), (fun h => by cases h), fun h => ?_⟩
        have := (h i (Nat.le_refl _) (by omega)).2
        omega
      · refine ⟨b, Ev.step (fun k => by rw [spec_onlyDigits.l0]) (Ev.pos (by omega) (Ev.pos (by omega) (Ev.neg c1 (Ev.neg c2 (by rw [w64_in (by omega) (by omega)]; exact hb))))), fun h j h1 h2 => ?_, fun h => hbi.2 fun j h1 h2 => h j (by omega) h2⟩
        by_cases hj : j = i
        · subst hj
          exact ⟨by omega, by omega⟩
        · exact hbi.1 h j (by omega) h2
theorem onlyD (p : ByteArray) (hp : p.size ≤ 100000) : ∃ b : Bool, Ev (fun k => spec_onlyDigits.f k p) b ∧ (b = true ↔ ∀ j, j < p.size → isD (bt p (j : Int))) := by
  obtain ⟨b, h1, h2⟩ := onlyD_l p hp p.size 0 (by omega)
  exact ⟨b, by unfold spec_onlyDigits.f; exact h1, h2.trans ⟨fun h j hj => h j (Nat.zero_le _) hj, fun h j _ hj => h j hj⟩⟩
theorem PF_stop {s : ByteArray} {strict : Bool} {y f i : Nat} (hpre : ∀ j, f ≤ j → j < i → isP (bt s (j : Int))) (hi : i = y ∨ (i < y ∧ bt s (i : Int) = 46)) (hfi : f ≤ i) :
    PF s strict y f ↔ f < i ∧ (strict = true → okSeg s f i) ∧ (i = y ∨ PF s strict y (i + 1)) := by
  constructor
  · intro h
    cases h with
    | last h hp hs =>
      rcases hi with hi | ⟨hi, hd⟩
      · subst hi
        exact ⟨h, hs, .inl rfl⟩
      · have := hp i hfi hi
        rw [hd] at this
        exact absurd this dot_notP
    | @more _ z h hz hp hs hd r =>
      rcases Nat.lt_trichotomy z i with c | c | c
      · have := hpre z (by omega) c
        rw [hd] at this
        exact absurd this dot_notP
      · subst c
        exact ⟨h, hs, .inr r⟩
      · have := hp i hfi c
        rcases hi with hi | ⟨hi, hd'⟩
        · omega
        · rw [hd'] at this
          exact absurd this dot_notP
  · rintro ⟨h1, h2, h3⟩
    rcases hi with hi | ⟨hi, hd⟩
    · subst hi
      exact PF.last h1 hpre h2
    · rcases h3 with h3 | h3
      · omega
      · exact PF.more h1 hi hpre h2 hd h3
theorem parts_char (p : ByteArray) (strict : Bool) (f i : Nat) (hi : i < p.size) (b : Bool) (hno : ¬ isP (bt p (i : Int)) → b = false) (hyes : isP (bt p (i : Int)) → Ev (fun k => spec_parts.l0 k p strict (f : Int) (wrap64 ((i : Int) + 1))) b) :
    Ev (fun k => spec_parts.j1 k p strict (f : Int) (i : Int) true) b := by
  have hf : b = false → Ev (fun k => spec_parts.j2 k p strict (f : Int) (i : Int) true) b := fun h => by
    rw [h]; exact Ev.step (fun k => by rw [spec_parts.j2]) (Ev.pos rfl (Ev.ok _))
  have ht : Ev (fun k => spec_parts.l0 k p strict (f : Int) (wrap64 ((i : Int) + 1))) b → Ev (fun k => spec_parts.j2 k p strict (f : Int) (i : Int) (!true)) b := fun h =>
    Ev.step (fun k => by rw [spec_parts.j2]) (Ev.neg (by decide) h)
  have h45 : (bt p (i : Int) = 45 ∨ ¬ isP (bt p (i : Int))) → Ev (fun k => spec_parts.j2 k p strict (f : Int) (i : Int) (!(bt p (i : Int) == 45))) b := fun h => by
    by_cases c : bt p (i : Int) = 45
    · rw [beq_iff_eq.2 c]
      exact ht (hyes (.inr (.inr (.inr c))))
    · rw [beq_eq_false_iff_ne.2 c]
      rcases h with h | h
      · exact absurd h c
      · exact hf (hno h)
  refine Ev.step (fun k => by rw [spec_parts.j1]) (Ev.pos rfl (Ev.pos (by omega) (Ev.pos (by omega) ?_)))
  by_cases c1 : bt p (i : Int) ≥ 48
  · refine Ev.pos c1 ?_
    by_cases c4 : bt p (i : Int) ≤ 57
    · exact Ev.pos c4 (ht (hyes (.inl ⟨c1, c4⟩)))
    · refine Ev.neg c4 ?_
      by_cases c2 : bt p (i : Int) ≥ 97
      · refine Ev.pos c2 ?_
        by_cases c5 : bt p (i : Int) ≤ 122
        · exact Ev.pos c5 (ht (hyes (.inr (.inl ⟨c2, c5⟩))))
        · exact Ev.neg c5 (Ev.pos (by omega) (Ev.neg (by omega) (h45 (.inr (by unfold isP; omega)))))
      · refine Ev.neg c2 ?_
        by_cases c3 : bt p (i : Int) ≥ 65
        · refine Ev.pos c3 ?_
          by_cases c5 : bt p (i : Int) ≤ 90
          · exact Ev.pos c5 (ht (hyes (.inr (.inr (.inl ⟨c3, c5⟩)))))
          · exact Ev.neg c5 (h45 (.inr (by unfold isP; omega)))
        · exact Ev.neg c3 (h45 (.inr (by unfold isP; omega)))
  · refine Ev.neg c1 (Ev.neg (by omega) (Ev.neg (by omega) (h45 ?_)))
    by_cases c : bt p (i : Int) = 45
    · exact .inl c
    · exact .inr (by unfold isP; omega)
/-- spec.parts from a loop's place on. -/
theorem parts_l (p : ByteArray) (hp : p.size ≤ 100000) (strict : Bool) : ∀ n f i : Nat, i + n = p.size + 1 → f ≤ i → (∀ j, f ≤ j → j < i → isP (bt p (j : Int))) →
    ∃ b : Bool, Ev (fun k => spec_parts.l0 k p strict (f : Int) (i : Int)) b ∧ (i = p.size + 1 → b = true) ∧ (i ≤ p.size → (b = true ↔ PF p strict p.size f))
  | 0, f, i, hn, hf, _ => ⟨true, Ev.step (fun k => by rw [spec_parts.l0]) (Ev.neg (by omega) (Ev.ok _)), fun _ => rfl, fun h => by omega⟩
  | n + 1, f, i, hn, hf, hpre => by
    have e1 : wrap64 ((i : Int) + 1) = ((i + 1 : Nat) : Int) := by rw [w64_in (by omega) (by omega)]; omega
    have hstop : (i = p.size ∨ (i < p.size ∧ bt p (i : Int) = 46)) → ∃ b : Bool, Ev (fun k => spec_parts.j1 k p strict (f : Int) (i : Int) false) b ∧ (b = true ↔ PF p strict p.size f) := by
      intro hi
      have hiff := PF_stop (strict := strict) hpre hi hf
      obtain ⟨b, hb, hb1, hb2⟩ := parts_l p hp strict n (i + 1) (i + 1) (by omega) (Nat.le_refl _) (fun j h1 h2 => by omega)
      have hgo : Ev (fun k => spec_parts.j3 k p strict (i : Int) false) b := Ev.step (fun k => by rw [spec_parts.j3]) (Ev.neg (by decide) (by rw [e1]; exact hb))
      have hno : Ev (fun k => spec_parts.j3 k p strict (i : Int) true) false := Ev.step (fun k => by rw [spec_parts.j3]) (Ev.pos rfl (Ev.ok _))
      have hbi : b = true ↔ (i = p.size ∨ PF p strict p.size (i + 1)) := by
        by_cases c : i = p.size
        · exact ⟨fun _ => .inl c, fun _ => hb1 (by omega)⟩
        · have := hb2 (by omega)
          exact ⟨fun h => .inr (this.1 h), fun h => by rcases h with h | h; exact absurd h c; exact this.2 h⟩
      by_cases c1 : i = f
      · refine ⟨false, Ev.step (fun k => by rw [spec_parts.j1]) (Ev.neg (by decide) (Ev.pos (by omega) hno)), (fun h => by cases h), fun h => ?_⟩
        have := (hiff.1 h).1
        omega
      · have hgood : ((strict = true → okSeg p f i)) → (b = true ↔ PF p strict p.size f) := fun h => hbi.trans ⟨fun q => hiff.2 ⟨by omega, h, q⟩, fun q => (hiff.1 q).2.2⟩
        cases hst : strict with
        | false =>
          subst hst
          exact ⟨b, Ev.step (fun k => by rw [spec_parts.j1]) (Ev.neg (by decide) (Ev.neg (by omega) (Ev.neg (by decide) hgo))), hgood (fun h => by cases h)⟩
        | true =>
          subst hst
          have e2 : wrap64 ((f : Int) + 1) = ((f + 1 : Nat) : Int) := by rw [w64_in (by omega) (by omega)]; omega
          have hz : p.size ≤ 100000 := hp
          by_cases c2 : (i : Int) > wrap64 ((f : Int) + 1)
          · have c2' : f + 1 < i := by rw [e2] at c2; omega
            by_cases c3 : bt p (f : Int) = 48
            · have hzx : (p.extract f i).size = i - f := ext_size _ _ _ (by omega)
              obtain ⟨d, hd, hdi⟩ := onlyD (p.extract f i) (by rw [hzx]; omega)
              have hdd : d = true ↔ ∀ j, f ≤ j → j < i → isD (bt p (j : Int)) := by
                rw [hdi, hzx]
                constructor
                · intro h j h1 h2
                  have := h (j - f) (by omega)
                  rw [bt_ext p f i (j - f) (by omega), show f + (j - f) = j by omega] at this
                  exact this
                · intro h j h1
                  rw [bt_ext p f i j (by omega)]
                  exact h (f + j) (by omega) (by omega)
              have hx : ∀ r : Bool, Ev (fun k => spec_parts.j3 k p true (i : Int) d) r → Ev (fun k => spec_parts.j1 k p true (f : Int) (i : Int) false) r := by
                intro r hr
                refine Ev.step (fun k => by rw [spec_parts.j1]) ?_
                refine Ev.neg (by decide) (Ev.neg (by omega) (Ev.pos rfl (Ev.pos c2 (Ev.pos (by omega) (Ev.pos (by omega) (Ev.pos c3 (Ev.pos (by omega) (Ev.pos (by omega) ?_))))))))
                rw [Int.toNat_natCast, Int.toNat_natCast]
                exact Ev.bind hd hr
              cases d with
              | true =>
                refine ⟨false, hx _ hno, (fun h => by cases h), fun h => ?_⟩
                exact absurd (hdd.1 rfl) ((hiff.1 h).2.1 rfl c2' c3)
              | false => exact ⟨b, hx _ hgo, hgood (fun _ _ _ h => by have := hdd.2 h; cases this)⟩
            · exact ⟨b, Ev.step (fun k => by rw [spec_parts.j1]) (Ev.neg (by decide) (Ev.neg (by omega) (Ev.pos rfl (Ev.pos c2 (Ev.pos (by omega) (Ev.pos (by omega) (Ev.neg c3 hgo))))))), hgood (fun _ _ h => absurd h c3)⟩
          · exact ⟨b, Ev.step (fun k => by rw [spec_parts.j1]) (Ev.neg (by decide) (Ev.neg (by omega) (Ev.pos rfl (Ev.neg c2 hgo)))), hgood (fun _ h => by rw [e2] at c2; omega)⟩
    by_cases c0 : i = p.size
    · obtain ⟨b, hb, hbi⟩ := hstop (.inl c0)
      exact ⟨b, Ev.step (fun k => by rw [spec_parts.l0]) (Ev.pos (by omega) (Ev.neg (by omega) hb)), fun h => by omega, fun _ => hbi⟩
    · have hlt : i < p.size := by omega
      by_cases c1 : bt p (i : Int) = 46
      · obtain ⟨b, hb, hbi⟩ := hstop (.inr ⟨hlt, c1⟩)
        refine ⟨b, Ev.step (fun k => by rw [spec_parts.l0]) (Ev.pos (by omega) (Ev.pos (by omega) (Ev.pos (by omega) ?_))), fun h => by omega, fun _ => hbi⟩
        rw [c1]
        exact hb
      · have hl0 : ∀ b : Bool, Ev (fun k => spec_parts.j1 k p strict (f : Int) (i : Int) true) b → Ev (fun k => spec_parts.l0 k p strict (f : Int) (i : Int)) b := fun b hb => by
          refine Ev.step (fun k => by rw [spec_parts.l0]) (Ev.pos (by omega) (Ev.pos (by omega) (Ev.pos (by omega) ?_)))
          rw [bne_iff_ne.2 c1]
          exact hb
        by_cases c2 : isP (bt p (i : Int))
        · obtain ⟨b, hb, _, hb2⟩ := parts_l p hp strict n f (i + 1) (by omega) (by omega) (fun j h1 h2 => by
            by_cases hj : j = i
            · subst hj; exact c2
            · exact hpre j h1 (by omega))
          exact ⟨b, hl0 b (parts_char p strict f i hlt b (fun h => absurd c2 h) (fun _ => by rw [e1]; exact hb)), fun h => by omega, fun _ => hb2 (by omega)⟩
        · refine ⟨false, hl0 _ (parts_char p strict f i hlt false (fun _ => rfl) (fun h => absurd h c2)), fun h => by omega, fun _ => ⟨(fun h => by cases h), fun h => ?_⟩⟩
          cases h with
          | last h hp' _ => exact absurd (hp' i hf hlt) c2
          | @more _ z h hz hp' _ hd _ =>
            rcases Nat.lt_trichotomy z i with c | c | c
            · have := hpre z (by omega) c
              rw [hd] at this
              exact absurd this dot_notP
            · subst c
              exact absurd hd c1
            · exact absurd (hp' i hf c) c2
theorem parts_ev (p : ByteArray) (hp : p.size ≤ 100000) (strict : Bool) : ∃ b : Bool, Ev (fun k => spec_parts.f k p strict) b ∧ (b = true ↔ PF p strict p.size 0) := by
  obtain ⟨b, h1, _, h2⟩ := parts_l p hp strict (p.size + 1) 0 0 (by omega) (Nat.le_refl _) (fun j _ h => by omega)
  exact ⟨b, by unfold spec_parts.f; exact h1, h2 (Nat.zero_le _)⟩
/-- Parts of a cut are parts of the whole. -/
theorem okSeg_ext {s : ByteArray} {a b x z : Nat} (h : a + z ≤ b) : okSeg (s.extract a b) x z ↔ okSeg s (a + x) (a + z) := by
  unfold okSeg
  constructor
  · intro q h1 h2 h3
    refine q (by omega) (by rw [bt_ext s a b x (by omega)]; exact h2) (fun j hj1 hj2 => ?_)
    rw [bt_ext s a b j (by omega)]
    exact h3 (a + j) (by omega) (by omega)
  · intro q h1 h2 h3
    refine q (by omega) (by rw [bt_ext s a b x (by omega)] at h2; exact h2) (fun j hj1 hj2 => ?_)
    have := h3 (j - a) (by omega) (by omega)
    rw [bt_ext s a b (j - a) (by omega), show a + (j - a) = j by omega] at this
    exact this
theorem PF_ext {s : ByteArray} {strict : Bool} {a b y : Nat} (h : a + y ≤ b) : ∀ {x : Nat}, PF (s.extract a b) strict y x → PF s strict (a + y) (a + x) := by
  intro x hx
  induction hx with
  | last h1 hp hs =>
    refine PF.last (by omega) (fun j hj1 hj2 => ?_) (fun q => (okSeg_ext h).1 (hs q))
    have := hp (j - a) (by omega) (by omega)
    rw [bt_ext s a b (j - a) (by omega), show a + (j - a) = j by omega] at this
    exact this
  | @more x z h1 hz hp hs hd r ih =>
    refine PF.more (z := a + z) (by omega) (by omega) (fun j hj1 hj2 => ?_) (fun q => (okSeg_ext (by omega)).1 (hs q)) (by rw [bt_ext s a b z (by omega)] at hd; exact hd) ih
    have := hp (j - a) (by omega) (by omega)
    rw [bt_ext s a b (j - a) (by omega), show a + (j - a) = j by omega] at this
    exact this
theorem PF_cut {s : ByteArray} {strict : Bool} {a b y' : Nat} (h : y' ≤ b) : ∀ {x' : Nat}, PF s strict y' x' → a ≤ x' → PF (s.extract a b) strict (y' - a) (x' - a) := by
  intro x hx
  induction hx with
  | @last x h1 hp hs =>
    intro ha
    refine PF.last (by omega) (fun j hj1 hj2 => ?_) (fun q => (okSeg_ext (by omega)).2 (by rw [show a + (x - a) = x by omega, show a + (y' - a) = y' by omega]; exact hs q))
    rw [bt_ext s a b j (by omega)]
    exact hp (a + j) (by omega) (by omega)
  | @more x z h1 hz hp hs hd r ih =>
    intro ha
    refine PF.more (z := z - a) (by omega) (by omega) (fun j hj1 hj2 => ?_) (fun q => (okSeg_ext (by omega)).2 (by rw [show a + (x - a) = x by omega, show a + (z - a) = z by omega]; exact hs q)) (by rw [bt_ext s a b (z - a) (by omega), show a + (z - a) = z by omega]; exact hd) ?_
    · rw [bt_ext s a b j (by omega)]
      exact hp (a + j) (by omega) (by omega)
    · have := ih (by omega)
      rw [show z + 1 - a = z - a + 1 by omega] at this
      exact this
end Go.Proofs.YtlhijjfbcgconaaGreatDoor.P


/- Versions, plain: spec.number, spec.ParseVersion, and what form a version has. -/
set_option linter.unusedVariables false
set_option linter.unusedSimpArgs false
namespace Go.Proofs.YtlhijjfbcgconaaGreatDoor.P
open Go.RowKit Go.Proofs.YtlhijjfbcgconaaGreatDoorW.PrintWords Go.Proofs.YtlhijjfbcgconaaGreatDoorW.PrintLast Go.Proofs.YtlhijjfbcgconaaGreatDoorW.PrintMore

/-- What digits from a place on spell. -/
def dv (s : ByteArray) (x : Nat) : Nat → Int
  | 0 => 0
  | d + 1 => dv s x d * 10 + (bt s ((x + d : Nat) : Int) - 48)
theorem dv_ext {s : ByteArray} {a b : Nat} : ∀ {d x : Nat}, a + x + d ≤ b → dv (s.extract a b) x d = dv s (a + x) d
  | 0, _, _ => rfl
  | d + 1, x, h => by
    unfold dv
    rw [dv_ext (d := d) (by omega), bt_ext s a b (x + d) (by omega), show a + (x + d) = a + x + d by omega]
theorem dv_range {s : ByteArray} {x : Nat} : ∀ {d : Nat}, (∀ j, x ≤ j → j < x + d → isD (bt s (j : Int))) → 0 ≤ dv s x d ∧ dv s x d < 10 ^ d
  | 0, _ => ⟨Int.le_refl 0, by show (0 : Int) < 1; decide⟩
  | d + 1, h => by
    have ih := dv_range (s := s) (x := x) (d := d) (fun j h1 h2 => h j h1 (by omega))
    have h1 := h (x + d) (by omega) (by omega)
    unfold isD at h1
    unfold dv
    have h2 : (10 : Int) ^ (d + 1) = 10 ^ d * 10 := Int.pow_succ ..
    omega
theorem dv_nine {s : ByteArray} {x d : Nat} (hd : d ≤ 9) (h : ∀ j, x ≤ j → j < x + d → isD (bt s (j : Int))) : 0 ≤ dv s x d ∧ dv s x d < 1000000000 := by
  have h1 := dv_range h
  have h2 : (10 : Int) ^ d ≤ 10 ^ 9 := by
    have : (10 : Nat) ^ d ≤ 10 ^ 9 := Nat.pow_le_pow_right (by decide) hd
    exact_mod_cast this
  have h3 : (10 : Int) ^ 9 = 1000000000 := by decide
  omega
/-- A number at the head of a text. -/
def Num (p : ByteArray) (d : Nat) : Prop := 0 < d ∧ d ≤ 9 ∧ d ≤ p.size ∧ (∀ j, j < d → isD (bt p (j : Int))) ∧ (d = p.size ∨ ¬ isD (bt p (d : Int))) ∧ (d = 1 ∨ bt p 0 ≠ 48)
theorem number_l (p : ByteArray) (hp : p.size ≤ 100000) : ∀ n i : Nat, i + n = 9 → i ≤ p.size → (∀ j, j < i → isD (bt p (j : Int))) →
    ∃ (r : Int × ByteArray × Bool), Ev (fun k => spec_number.l0 k p (dv p 0 i) (i : Int)) r ∧ (r.2.2 = true → ∃ d, Num p d ∧ r.1 = dv p 0 d ∧ r.2.1 = p.extract d p.size) ∧ ((∃ d, Num p d) → r.2.2 = true) := by
  have hend : ∀ i : Nat, i ≤ 9 → i ≤ p.size → (∀ j, j < i → isD (bt p (j : Int))) → (i = p.size ∨ ¬ isD (bt p (i : Int))) → ∃ (r : Int × ByteArray × Bool), Ev (fun k => spec_number.j1 k p (dv p 0 i) (i : Int) false) r ∧ (r.2.2 = true → ∃ d, Num p d ∧ r.1 = dv p 0 d ∧ r.2.1 = p.extract d p.size) ∧ ((∃ d, Num p d) → r.2.2 = true) := by
    intro i h9 hi hd hstop
    have e1 : ((i : Int)).toNat = i := by omega
    have huniq : (∃ d, Num p d) → Num p i := by
      rintro ⟨d, hn⟩
      obtain ⟨g1, g2, g3, g4, g5, g6⟩ := id hn
      have : d = i := by
        rcases Nat.lt_trichotomy d i with c | c | c
        · rcases g5 with g5 | g5
          · omega
          · exact absurd (hd d c) g5
        · exact c
        · rcases hstop with q | q
          · omega
          · exact absurd (g4 i c) q
      rw [← this]
      exact hn
    by_cases c0 : i > 0
    · by_cases c1 : i = 1
      · refine ⟨(dv p 0 i, p.extract i p.size, true), Ev.step (fun k => by rw [spec_number.j1]) (Ev.neg (by decide) (Ev.pos (by omega) (Ev.pos (by omega) (Ev.pos (by omega) (Ev.pos (by omega) (by rw [e1]; exact Ev.ok _)))))), fun _ => ⟨i, ⟨c0, h9, hi, hd, hstop, .inl c1⟩, rfl, rfl⟩, fun _ => rfl⟩
      · refine ⟨(dv p 0 i, p.extract i p.size, bt p 0 != 48), Ev.step (fun k => by rw [spec_number.j1]) (Ev.neg (by decide) (Ev.pos (by omega) (Ev.pos (by omega) (Ev.pos (by omega) (Ev.neg (by omega) (Ev.pos (by omega) (by rw [e1]; exact Ev.ok _))))))), fun h => ⟨i, ⟨c0, h9, hi, hd, hstop, .inr (bne_iff_ne.1 h)⟩, rfl, rfl⟩, fun h => ?_⟩
        obtain ⟨_, _, _, _, _, h6⟩ := huniq h
        rcases h6 with h6 | h6
        · exact absurd h6 c1
        · exact bne_iff_ne.2 h6
    · refine ⟨(dv p 0 i, p.extract i p.size, false), Ev.step (fun k => by rw [spec_number.j1]) (Ev.neg (by decide) (Ev.pos (by omega) (Ev.pos (by omega) (Ev.neg (by omega) (by rw [e1]; exact Ev.ok _))))), (fun h => by cases h), fun h => ?_⟩
      have := (huniq h).1
      omega
  intro n
  induction n with
  | zero =>
    intro i hn hi hd
    by_cases c : i < p.size ∧ isD (bt p (i : Int))
    · refine ⟨(0, p, false), Ev.step (fun k => by rw [spec_number.l0]) (Ev.pos (by omega) (Ev.pos (by omega) (Ev.pos c.2.1 (Ev.step (fun k => by rw [spec_number.j1]) (Ev.pos (decide_eq_true c.2.2) (Ev.pos (by omega) (Ev.pos (by omega) (Ev.pos (by rw [w64_in (by omega) (by omega)]; omega) (Ev.ok _))))))))), (fun h => by cases h), fun h => ?_⟩
      obtain ⟨d, g1, g2, g3, g4, g5, g6⟩ := h
      rcases g5 with g5 | g5
      · omega
      · have : isD (bt p (d : Int)) := by
          rcases Nat.lt_or_ge d i with q | q
          · exact hd d q
          · obtain rfl : d = i := by omega
            exact c.2
        exact absurd this g5
    · have hstop : i = p.size ∨ ¬ isD (bt p (i : Int)) := by
        by_cases q : i = p.size
        · exact .inl q
        · exact .inr fun h => c ⟨by omega, h⟩
      obtain ⟨r, h1, h2⟩ := hend i (by omega) hi hd hstop
      refine ⟨r, Ev.step (fun k => by rw [spec_number.l0]) ?_, h2⟩
      by_cases q : i < p.size
      · refine Ev.pos (by omega) (Ev.pos (by omega) ?_)
        by_cases q2 : bt p (i : Int) ≥ 48
        · refine Ev.pos q2 ?_
          rw [decide_eq_false (fun h => c ⟨q, q2, h⟩)]
          exact h1
        · exact Ev.neg q2 h1
      · exact Ev.neg (by omega) h1
  | succ n ih =>
    intro i hn hi hd
    by_cases c : i < p.size ∧ isD (bt p (i : Int))
    · have hd2 : ∀ j, j < i + 1 → isD (bt p (j : Int)) := fun j hj => by
        rcases Nat.lt_or_ge j i with q | q
        · exact hd j q
        · obtain rfl : j = i := by omega
          exact c.2
      obtain ⟨r, h1, h2⟩ := ih (i + 1) (by omega) (by omega) hd2
      have e1 : wrap64 ((i : Int) + 1) = ((i + 1 : Nat) : Int) := by rw [w64_in (by omega) (by omega)]; omega
      have hr := dv_nine (s := p) (x := 0) (d := i) (by omega) (fun j _ hj => hd j (by omega))
      have hc := c.2
      unfold isD at hc
      have e2 : IntKind.u64.wrap (IntKind.u64.wrap (dv p 0 i * 10) + (bt p (i : Int) - 48) % 256) = dv p 0 (i + 1) := by
        have h64 := IntWalk.u64_in (dv p 0 i * 10) ⟨by omega, by omega⟩
        rw [h64, IntWalk.u64_in _ ⟨by omega, by omega⟩]
        show _ = dv p 0 i * 10 + (bt p ((0 + i : Nat) : Int) - 48)
        rw [Nat.zero_add]
        omega
      refine ⟨r, Ev.step (fun k => by rw [spec_number.l0]) (Ev.pos (by omega) (Ev.pos (by omega) (Ev.pos c.2.1 (Ev.step (fun k => by rw [spec_number.j1]) (Ev.pos (decide_eq_true c.2.2) (Ev.pos (by omega) (Ev.pos (by omega) (Ev.neg (by rw [e1]; omega) ?_)))))))), h2⟩
      rw [e2, e1]
      exact h1
    · have hstop : i = p.size ∨ ¬ isD (bt p (i : Int)) := by
        by_cases q : i = p.size
        · exact .inl q
        · exact .inr fun h => c ⟨by omega, h⟩
      obtain ⟨r, h1, h2⟩ := hend i (by omega) hi hd hstop
      refine ⟨r, Ev.step (fun k => by rw [spec_number.l0]) ?_, h2⟩
      by_cases q : i < p.size
      · refine Ev.pos (by omega) (Ev.pos (by omega) ?_)
        by_cases q2 : bt p (i : Int) ≥ 48
        · refine Ev.pos q2 ?_
          rw [decide_eq_false (fun h => c ⟨q, q2, h⟩)]
          exact h1
        · exact Ev.neg q2 h1
      · exact Ev.neg (by omega) h1
theorem number_ev (p : ByteArray) (hp : p.size ≤ 100000) : ∃ (r : Int × ByteArray × Bool), Ev (fun k => spec_number.f k p) r ∧ (r.2.2 = true → ∃ d, Num p d ∧ r.1 = dv p 0 d ∧ r.2.1 = p.extract d p.size) ∧ ((∃ d, Num p d) → r.2.2 = true) := by
  obtain ⟨r, h1, h2⟩ := number_l p hp 9 0 (by omega) (Nat.zero_le _) (fun j h => by omega)
  exact ⟨r, by unfold spec_number.f; exact h1, h2⟩
/-- A number within a text, from x to e. -/
def NumAt9 (s : ByteArray) (x e : Nat) : Prop := x < e ∧ e ≤ x + 9 ∧ e ≤ s.size ∧ (∀ j, x ≤ j → j < e → isD (bt s (j : Int))) ∧ (e = s.size ∨ ¬ isD (bt s (e : Int))) ∧ (e = x + 1 ∨ bt s (x : Int) ≠ 48)
theorem Num_at {s : ByteArray} {x y d : Nat} (hy : y ≤ s.size) (hend : y = s.size ∨ ¬ isD (bt s (y : Int))) (hx : x ≤ y) : Num (s.extract x y) d ↔ NumAt9 s x (x + d) ∧ x + d ≤ y := by
  have hz : (s.extract x y).size = y - x := ext_size _ _ _ hy
  have hz0 : x < y → bt (s.extract x y) 0 = bt s (x : Int) := fun h => by
    have := bt_ext s x y 0 (by omega)
    rw [show ((0 : Nat) : Int) = 0 from rfl] at this
    exact this
  constructor
  · rintro ⟨h1, h2, h3, h4, h5, h6⟩
    rw [hz] at h3 h5
    refine ⟨⟨by omega, by omega, by omega, fun j hj1 hj2 => ?_, ?_, ?_⟩, by omega⟩
    · have := h4 (j - x) (by omega)
      rw [bt_ext s x y (j - x) (by omega), show x + (j - x) = j by omega] at this
      exact this
    · rcases h5 with h5 | h5
      · have : x + d = y := by omega
        rw [this]
        exact hend
      · by_cases q : x + d = y
        · rw [q]; exact hend
        · rw [bt_ext s x y d (by omega)] at h5
          exact .inr h5
    · rcases h6 with h6 | h6
      · exact .inl (by omega)
      · rw [hz0 (by omega)] at h6
        exact .inr h6
  · rintro ⟨⟨h1, h2, h3, h4, h5, h6⟩, h7⟩
    refine ⟨by omega, by omega, by omega, fun j hj => ?_, ?_, ?_⟩
    · rw [bt_ext s x y j (by omega)]
      exact h4 (x + j) (by omega) (by omega)
    · rw [hz]
      by_cases q : x + d = y
      · exact .inl (by omega)
      · rcases h5 with h5 | h5
        · exact .inl (by omega)
        · rw [bt_ext s x y d (by omega)]
          exact .inr h5
    · rcases h6 with h6 | h6
      · exact .inl (by omega)
      · rw [hz0 (by omega)]
        exact .inr h6
/-- The form of a version: three numbers, then something behind a hyphen up to m, then something behind a plus sign. -/
structure Form9 (s : ByteArray) (a b c m : Nat) (n1 n2 n3 : Int) (pre meta_ : ByteArray) : Prop where
  size : s.size ≤ 100
  d1 : NumAt9 s 0 a
  p1 : bt s (a : Int) = 46
  q1 : a < s.size
  d2 : NumAt9 s (a + 1) b
  p2 : bt s (b : Int) = 46
  q2 : b < s.size
  d3 : NumAt9 s (b + 1) c
  cm : c ≤ m
  ms : m ≤ s.size
  hpre : (c = m ∧ pre = ⟨#[]⟩) ∨ (c < m ∧ bt s (c : Int) = 45 ∧ PF s true m (c + 1) ∧ pre = s.extract (c + 1) m)
  hmeta : (m = s.size ∧ meta_ = ⟨#[]⟩) ∨ (m < s.size ∧ bt s (m : Int) = 43 ∧ PF s false s.size (m + 1) ∧ meta_ = s.extract (m + 1) s.size)
  v1 : n1 = dv s 0 a
  v2 : n2 = dv s (a + 1) (b - (a + 1))
  v3 : n3 = dv s (b + 1) (c - (b + 1))
  noplus : ∀ j, j < m → bt s (j : Int) ≠ 43
def zeroV : Int × Int × Int × ByteArray × ByteArray × Bool := (0, 0, 0, ⟨#[]⟩, ⟨#[]⟩, false)
theorem j3_no (v1 v2 v3 : Int) (p0 mt x : ByteArray) : Ev (fun k => spec_ParseVersion.j3 k x true v1 v2 v3 p0 mt) zeroV := by
  refine Ev.step (fun k => by rw [spec_ParseVersion.j3]) ?_
  exact Ev.pos rfl (Ev.ok zeroV)
theorem j2_no (v1 v2 v3 : Int) (p0 mt x : ByteArray) : Ev (fun k => spec_ParseVersion.j2 k x true v1 v2 v3 p0 mt) zeroV := by
  refine Ev.step (fun k => by rw [spec_ParseVersion.j2]) ?_
  exact Ev.pos rfl (Ev.ok zeroV)
theorem bt_ext0 (s : ByteArray) (x y : Nat) (h : x < y) : bt (s.extract x y) 0 = bt s (x : Int) := by
  have := bt_ext s x y 0 (by omega)
  rw [show ((0 : Nat) : Int) = 0 from rfl] at this
  exact this
theorem ext_to (s : ByteArray) (x y d : Nat) (hy : y ≤ s.size) (hd : x + d ≤ y) : (s.extract x y).extract d (s.extract x y).size = s.extract (x + d) y := by
  rw [ext_size _ _ _ hy, ext_ext _ _ _ _ _ (by omega), show x + (y - x) = y by omega]
theorem j3_ev (s : ByteArray) (hs : s.size ≤ 100) (m b : Nat) (hm : m ≤ s.size) (hend : m = s.size ∨ ¬ isD (bt s (m : Int))) (hb : b < m) (v1 v2 v3 : Int) (p0 mt : ByteArray) :
    ∃ r : Int × Int × Int × ByteArray × ByteArray × Bool, Ev (fun k => spec_ParseVersion.j3 k (s.extract b m) false v1 v2 v3 p0 mt) r ∧ (r.2.2.2.2.2 = true → ∃ c pre, NumAt9 s (b + 1) c ∧ c ≤ m ∧ r = (v1, v2, dv s (b + 1) (c - (b + 1)), pre, mt, true) ∧ ((c = m ∧ pre = p0) ∨ (c < m ∧ bt s (c : Int) = 45 ∧ PF s true m (c + 1) ∧ pre = s.extract (c + 1) m))) := by
  have hz : (s.extract b m).size = m - b := ext_size _ _ _ hm
  obtain ⟨r, hr, h1, h2⟩ := number_ev (s.extract (b + 1) m) (by rw [ext_size _ _ _ hm]; omega)
  have hgo : ∀ q, Ev (fun k => (if r.2.2 = true then (if (r.2.1.size : Int) > 0 then (if 0 < (r.2.1.size : Int) then (if (bt r.2.1 0) = 45 then (if 1 ≤ (r.2.1.size : Int) then ((spec_parts.f k (r.2.1.extract 1 r.2.1.size) true).bind fun t113 => (if t113 = true then (some (v1, v2, r.1, r.2.1.extract 1 r.2.1.size, mt, true)) else (some (0, 0, 0, (⟨#[]⟩ : ByteArray), (⟨#[]⟩ : ByteArray), false)))) else (none)) else (some (0, 0, 0, (⟨#[]⟩ : ByteArray), (⟨#[]⟩ : ByteArray), false))) else (none)) else (some (v1, v2, r.1, p0, mt, true))) else (some (0, 0, 0, (⟨#[]⟩ : ByteArray), (⟨#[]⟩ : ByteArray), false)))) q → Ev (fun k => spec_ParseVersion.j3 k (s.extract b m) false v1 v2 v3 p0 mt) q := fun q hq => by
    refine Ev.step (fun k => by rw [spec_ParseVersion.j3]) (Ev.neg (by decide) (Ev.pos (by omega) ?_))
    rw [ext_to s b m 1 hm (by omega)]
    exact Ev.bind hr hq
  obtain ⟨n, rest, ok⟩ := r
  cases ok with
  | false => exact ⟨zeroV, hgo _ (Ev.neg (fun h => by cases h) (Ev.ok _)), fun h => by cases h⟩
  | true =>
    obtain ⟨d, hn, hv, hrest⟩ := h1 rfl
    simp only at hv hrest
    obtain ⟨hna, hle⟩ := (Num_at hm hend (by omega)).1 hn
    rw [ext_to s (b + 1) m d hm hle] at hrest
    have hrz : rest.size = m - (b + 1 + d) := by rw [hrest]; exact ext_size _ _ _ hm
    have hdv : n = dv s (b + 1) (b + 1 + d - (b + 1)) := by rw [hv, dv_ext (by omega), show b + 1 + d - (b + 1) = d by omega, Nat.add_zero]
    by_cases c1 : b + 1 + d = m
    · exact ⟨(v1, v2, n, p0, mt, true), hgo _ (Ev.pos rfl (Ev.neg (by simp only; omega) (Ev.ok _))), fun _ => ⟨b + 1 + d, p0, hna, hle, by rw [hdv], .inl ⟨c1, rfl⟩⟩⟩
    · have hb0 : bt rest 0 = bt s ((b + 1 + d : Nat) : Int) := by rw [hrest, bt_ext0 _ _ _ (by omega)]
      by_cases c2 : bt rest 0 = 45
      · have hre : rest.extract 1 rest.size = s.extract (b + 1 + d + 1) m := by rw [hrest, ext_to s (b + 1 + d) m 1 hm (by omega)]
        obtain ⟨q, hq, hqi⟩ := parts_ev (rest.extract 1 rest.size) (by rw [hre, ext_size _ _ _ hm]; omega) true
        cases q with
        | false => exact ⟨zeroV, hgo _ (Ev.pos rfl (Ev.pos (by simp only; omega) (Ev.pos (by simp only; omega) (Ev.pos c2 (Ev.pos (by simp only; omega) (Ev.bind hq (Ev.neg (by decide) (Ev.ok _)))))))), fun h => by cases h⟩
        | true =>
          refine ⟨(v1, v2, n, rest.extract 1 rest.size, mt, true), hgo _ (Ev.pos rfl (Ev.pos (by simp only; omega) (Ev.pos (by simp only; omega) (Ev.pos c2 (Ev.pos (by simp only; omega) (Ev.bind hq (Ev.pos rfl (Ev.ok _)))))))), fun _ => ⟨b + 1 + d, rest.extract 1 rest.size, hna, hle, by rw [hdv], .inr ⟨by omega, by rw [← hb0]; exact c2, ?_, hre⟩⟩⟩
          have hpf := hqi.1 rfl
          rw [hre, ext_size _ _ _ hm] at hpf
          have := PF_ext (s := s) (a := b + 1 + d + 1) (b := m) (by omega) hpf
          rw [show b + 1 + d + 1 + (m - (b + 1 + d + 1)) = m by omega, Nat.add_zero] at this
          exact this
      · exact ⟨zeroV, hgo _ (Ev.pos rfl (Ev.pos (by simp only; omega) (Ev.pos (by simp only; omega) (Ev.neg c2 (Ev.ok _))))), fun h => by cases h⟩
theorem j2_ev (s : ByteArray) (hs : s.size ≤ 100) (m a : Nat) (hm : m ≤ s.size) (hend : m = s.size ∨ ¬ isD (bt s (m : Int))) (ha : a < m) (v1 v2 v3 : Int) (p0 mt : ByteArray) :
    ∃ r : Int × Int × Int × ByteArray × ByteArray × Bool, Ev (fun k => spec_ParseVersion.j2 k (s.extract a m) false v1 v2 v3 p0 mt) r ∧ (r.2.2.2.2.2 = true → ∃ b c pre, NumAt9 s (a + 1) b ∧ b < m ∧ bt s (b : Int) = 46 ∧ NumAt9 s (b + 1) c ∧ c ≤ m ∧ r = (v1, dv s (a + 1) (b - (a + 1)), dv s (b + 1) (c - (b + 1)), pre, mt, true) ∧ ((c = m ∧ pre = p0) ∨ (c < m ∧ bt s (c : Int) = 45 ∧ PF s true m (c + 1) ∧ pre = s.extract (c + 1) m))) := by
  have hz : (s.extract a m).size = m - a := ext_size _ _ _ hm
  obtain ⟨r, hr, h1, h2⟩ := number_ev (s.extract (a + 1) m) (by rw [ext_size _ _ _ hm]; omega)
  have hgo : ∀ q, Ev (fun k => (if r.2.2 = true then (if (r.2.1.size : Int) = 0 then (spec_ParseVersion.j3 k r.2.1 true v1 r.1 v3 p0 mt) else (if 0 < (r.2.1.size : Int) then (spec_ParseVersion.j3 k r.2.1 ((bt r.2.1 0) != 46) v1 r.1 v3 p0 mt) else (none))) else (spec_ParseVersion.j3 k r.2.1 true v1 r.1 v3 p0 mt))) q → Ev (fun k => spec_ParseVersion.j2 k (s.extract a m) false v1 v2 v3 p0 mt) q := fun q hq => by
    refine Ev.step (fun k => by rw [spec_ParseVersion.j2]) (Ev.neg (by decide) (Ev.pos (by omega) ?_))
    rw [ext_to s a m 1 hm (by omega)]
    exact Ev.bind hr hq
  obtain ⟨n, rest, ok⟩ := r
  cases ok with
  | false => exact ⟨zeroV, hgo _ (Ev.neg (fun h => by cases h) (j3_no _ _ _ _ _ _)), fun h => by cases h⟩
  | true =>
    obtain ⟨d, hn, hv, hrest⟩ := h1 rfl
    simp only at hv hrest
    obtain ⟨hna, hle⟩ := (Num_at hm hend (by omega)).1 hn
    rw [ext_to s (a + 1) m d hm hle] at hrest
    have hrz : rest.size = m - (a + 1 + d) := by rw [hrest]; exact ext_size _ _ _ hm
    have hdv : n = dv s (a + 1) (a + 1 + d - (a + 1)) := by rw [hv, dv_ext (by omega), show a + 1 + d - (a + 1) = d by omega, Nat.add_zero]
    by_cases c1 : a + 1 + d = m
    · exact ⟨zeroV, hgo _ (Ev.pos rfl (Ev.pos (by simp only; omega) (j3_no _ _ _ _ _ _))), fun h => by cases h⟩
    · have hb0 : bt rest 0 = bt s ((a + 1 + d : Nat) : Int) := by rw [hrest, bt_ext0 _ _ _ (by omega)]
      by_cases c2 : bt rest 0 = 46
      · obtain ⟨r3, hr3, h3⟩ := j3_ev s hs m (a + 1 + d) hm hend (by omega) v1 n v3 p0 mt
        rw [← hrest] at hr3
        refine ⟨r3, hgo _ (Ev.pos rfl (Ev.neg (by simp only; omega) (Ev.pos (by simp only; omega) ?_))), fun h => ?_⟩
        · simp only
          rw [c2]
          exact hr3
        · obtain ⟨c, pre, g1, g2, g3, g4⟩ := h3 h
          exact ⟨a + 1 + d, c, pre, hna, by omega, by rw [← hb0]; exact c2, g1, g2, by rw [g3, hdv], g4⟩
      · refine ⟨zeroV, hgo _ (Ev.pos rfl (Ev.neg (by simp only; omega) (Ev.pos (by simp only; omega) ?_))), fun h => by cases h⟩
        simp only
        rw [bne_iff_ne.2 c2]
        exact j3_no _ _ _ _ _ _
theorem j1_ev (s : ByteArray) (hs : s.size ≤ 100) (m : Nat) (hm : m ≤ s.size) (hend : m = s.size ∨ ¬ isD (bt s (m : Int))) (v1 v2 v3 : Int) (p0 mt : ByteArray) :
    ∃ r : Int × Int × Int × ByteArray × ByteArray × Bool, Ev (fun k => spec_ParseVersion.j1 k (s.extract 0 m) v1 v2 v3 p0 mt) r ∧ (r.2.2.2.2.2 = true → ∃ a b c pre, NumAt9 s 0 a ∧ a < m ∧ bt s (a : Int) = 46 ∧ NumAt9 s (a + 1) b ∧ b < m ∧ bt s (b : Int) = 46 ∧ NumAt9 s (b + 1) c ∧ c ≤ m ∧ r = (dv s 0 a, dv s (a + 1) (b - (a + 1)), dv s (b + 1) (c - (b + 1)), pre, mt, true) ∧ ((c = m ∧ pre = p0) ∨ (c < m ∧ bt s (c : Int) = 45 ∧ PF s true m (c + 1) ∧ pre = s.extract (c + 1) m))) := by
  obtain ⟨r, hr, h1, h2⟩ := number_ev (s.extract 0 m) (by rw [ext_size _ _ _ hm]; omega)
  have hgo : ∀ q, Ev (fun k => (if r.2.2 = true then (if (r.2.1.size : Int) = 0 then (spec_ParseVersion.j2 k r.2.1 true r.1 v2 v3 p0 mt) else (if 0 < (r.2.1.size : Int) then (spec_ParseVersion.j2 k r.2.1 ((bt r.2.1 0) != 46) r.1 v2 v3 p0 mt) else (none))) else (spec_ParseVersion.j2 k r.2.1 true r.1 v2 v3 p0 mt))) q → Ev (fun k => spec_ParseVersion.j1 k (s.extract 0 m) v1 v2 v3 p0 mt) q := fun q hq =>
    Ev.step (fun k => by rw [spec_ParseVersion.j1]) (Ev.bind hr hq)
  obtain ⟨n, rest, ok⟩ := r
  cases ok with
  | false => exact ⟨zeroV, hgo _ (Ev.neg (fun h => by cases h) (j2_no _ _ _ _ _ _)), fun h => by cases h⟩
  | true =>
    obtain ⟨d, hn, hv, hrest⟩ := h1 rfl
    simp only at hv hrest
    obtain ⟨hna, hle⟩ := (Num_at hm hend (by omega)).1 hn
    rw [ext_to s 0 m d hm hle, Nat.zero_add] at hrest
    rw [Nat.zero_add] at hna hle
    have hrz : rest.size = m - d := by rw [hrest]; exact ext_size _ _ _ hm
    have hdv : n = dv s 0 d := by rw [hv, dv_ext (by omega)]
    by_cases c1 : d = m
    · exact ⟨zeroV, hgo _ (Ev.pos rfl (Ev.pos (by simp only; omega) (j2_no _ _ _ _ _ _))), fun h => by cases h⟩
    · have hb0 : bt rest 0 = bt s (d : Int) := by rw [hrest, bt_ext0 _ _ _ (by omega)]
      by_cases c2 : bt rest 0 = 46
      · obtain ⟨r3, hr3, h3⟩ := j2_ev s hs m d hm hend (by omega) n v2 v3 p0 mt
        rw [← hrest] at hr3
        refine ⟨r3, hgo _ (Ev.pos rfl (Ev.neg (by simp only; omega) (Ev.pos (by simp only; omega) ?_))), fun h => ?_⟩
        · simp only
          rw [c2]
          exact hr3
        · obtain ⟨b, c, pre, g0, g1, g2, g3, g4, g5, g6⟩ := h3 h
          exact ⟨d, b, c, pre, hna, by omega, by rw [← hb0]; exact c2, g0, g1, g2, g3, g4, by rw [g5, hdv], g6⟩
      · refine ⟨zeroV, hgo _ (Ev.pos rfl (Ev.neg (by simp only; omega) (Ev.pos (by simp only; omega) ?_))), fun h => by cases h⟩
        simp only
        rw [bne_iff_ne.2 c2]
        exact j2_no _ _ _ _ _ _
theorem parse_l (s : ByteArray) (hs : s.size ≤ 100) : ∀ n i : Nat, i + n = s.size → (∀ j, j < i → bt s (j : Int) ≠ 43) →
    ∃ r : Int × Int × Int × ByteArray × ByteArray × Bool, Ev (fun k => spec_ParseVersion.l0 k s (i : Int) 0 0 0 ⟨#[]⟩ ⟨#[]⟩) r ∧ (r.2.2.2.2.2 = true → ∃ a b c m, Form9 s a b c m r.1 r.2.1 r.2.2.1 r.2.2.2.1 r.2.2.2.2.1)
  | 0, i, hn, hno => by
    obtain rfl : i = s.size := by omega
    obtain ⟨r, hr, h1⟩ := j1_ev s hs s.size (Nat.le_refl _) (.inl rfl) 0 0 0 ⟨#[]⟩ ⟨#[]⟩
    rw [ext_all] at hr
    refine ⟨r, Ev.step (fun k => by rw [spec_ParseVersion.l0]) (Ev.neg (by omega) hr), fun h => ?_⟩
    obtain ⟨a, b, c, pre, g1, g2, g3, g4, g5, g6, g7, g8, g9, g10⟩ := h1 h
    subst g9
    exact ⟨a, b, c, s.size, ⟨hs, g1, g3, g2, g4, g6, g5, g7, g8, Nat.le_refl _, g10, .inl ⟨rfl, rfl⟩, rfl, rfl, rfl, hno⟩⟩
  | n + 1, i, hn, hno => by
    have e1 : wrap64 ((i : Int) + 1) = ((i + 1 : Nat) : Int) := by rw [w64_in (by omega) (by omega)]; omega
    by_cases c1 : bt s (i : Int) = 43
    · have e2 : (((i + 1 : Nat) : Int)).toNat = i + 1 := by omega
      have e3 : ((i : Int)).toNat = i := by omega
      obtain ⟨q, hq, hqi⟩ := parts_ev (s.extract (i + 1) s.size) (by rw [ext_size _ _ _ (Nat.le_refl _)]; omega) false
      obtain ⟨r, hr, h1⟩ := j1_ev s hs i (by omega) (.inr (by rw [c1]; unfold isD; omega)) 0 0 0 ⟨#[]⟩ (s.extract (i + 1) s.size)
      have hgo : ∀ z, Ev (fun k => (if q = true then (spec_ParseVersion.j1 k (s.extract 0 i) 0 0 0 ⟨#[]⟩ (s.extract (i + 1) s.size)) else (some (0, 0, 0, (⟨#[]⟩ : ByteArray), (⟨#[]⟩ : ByteArray), false)))) z → Ev (fun k => spec_ParseVersion.l0 k s (i : Int) 0 0 0 ⟨#[]⟩ ⟨#[]⟩) z := fun z hz => by
        refine Ev.step (fun k => by rw [spec_ParseVersion.l0]) (Ev.pos (by omega) (Ev.pos (by omega) (Ev.pos c1 (Ev.pos (by rw [e1]; omega) (Ev.pos (by rw [e1]; omega) (Ev.pos (by omega) ?_))))))
        rw [e1, e2, e3]
        exact Ev.bind hq hz
      cases q with
      | false => exact ⟨zeroV, hgo _ (Ev.neg (fun h => by cases h) (Ev.ok _)), fun h => by cases h⟩
      | true =>
        refine ⟨r, hgo _ (Ev.pos rfl hr), fun h => ?_⟩
        obtain ⟨a, b, c, pre, g1, g2, g3, g4, g5, g6, g7, g8, g9, g10⟩ := h1 h
        subst g9
        refine ⟨a, b, c, i, ⟨hs, g1, g3, by omega, g4, g6, by omega, g7, g8, by omega, g10, .inr ⟨by omega, c1, ?_, rfl⟩, rfl, rfl, rfl, hno⟩⟩
        have hpf := hqi.1 rfl
        rw [ext_size _ _ _ (Nat.le_refl _)] at hpf
        have := PF_ext (s := s) (a := i + 1) (b := s.size) (by omega) hpf
        rw [show i + 1 + (s.size - (i + 1)) = s.size by omega, Nat.add_zero] at this
        exact this
    · obtain ⟨r, hr, h1⟩ := parse_l s hs n (i + 1) (by omega) (fun j hj => by
        rcases Nat.lt_or_ge j i with q | q
        · exact hno j q
        · obtain rfl : j = i := by omega
          exact c1)
      exact ⟨r, Ev.step (fun k => by rw [spec_ParseVersion.l0]) (Ev.pos (by omega) (Ev.pos (by omega) (Ev.neg c1 (by rw [e1]; exact hr)))), h1⟩
theorem parse_ev9 (s : ByteArray) : ∃ r : Int × Int × Int × ByteArray × ByteArray × Bool, Ev (fun k => spec_ParseVersion.f k s) r ∧ (r.2.2.2.2.2 = true → ∃ a b c m, Form9 s a b c m r.1 r.2.1 r.2.2.1 r.2.2.2.1 r.2.2.2.2.1) := by
  unfold spec_ParseVersion.f
  by_cases c : (s.size : Int) > 100
  · exact ⟨zeroV, Ev.pos c (Ev.ok _), fun h => by cases h⟩
  · obtain ⟨r, h1, h2⟩ := parse_l s (by omega) s.size 0 (by omega) (fun j h => by omega)
    exact ⟨r, Ev.neg c h1, h2⟩
/-- A number within a text, from x to e, of at most 15 digits. -/
def NumAt (s : ByteArray) (x e : Nat) : Prop := x < e ∧ e ≤ x + 15 ∧ e ≤ s.size ∧ (∀ j, x ≤ j → j < e → isD (bt s (j : Int))) ∧ (e = s.size ∨ ¬ isD (bt s (e : Int))) ∧ (e = x + 1 ∨ bt s (x : Int) ≠ 48)
theorem NumAt9.wide {s : ByteArray} {x e : Nat} (h : NumAt9 s x e) : NumAt s x e := ⟨h.1, by have := h.2.1; omega, h.2.2.1, h.2.2.2.1, h.2.2.2.2.1, h.2.2.2.2.2⟩
/-- The form of a version, whose numbers have at most 15 digits. -/
structure Form (s : ByteArray) (a b c m : Nat) (n1 n2 n3 : Int) (pre meta_ : ByteArray) : Prop where
  size : s.size ≤ 100
  d1 : NumAt s 0 a
  p1 : bt s (a : Int) = 46
  q1 : a < s.size
  d2 : NumAt s (a + 1) b
  p2 : bt s (b : Int) = 46
  q2 : b < s.size
  d3 : NumAt s (b + 1) c
  cm : c ≤ m
  ms : m ≤ s.size
  hpre : (c = m ∧ pre = ⟨#[]⟩) ∨ (c < m ∧ bt s (c : Int) = 45 ∧ PF s true m (c + 1) ∧ pre = s.extract (c + 1) m)
  hmeta : (m = s.size ∧ meta_ = ⟨#[]⟩) ∨ (m < s.size ∧ bt s (m : Int) = 43 ∧ PF s false s.size (m + 1) ∧ meta_ = s.extract (m + 1) s.size)
  v1 : n1 = dv s 0 a
  v2 : n2 = dv s (a + 1) (b - (a + 1))
  v3 : n3 = dv s (b + 1) (c - (b + 1))
  noplus : ∀ j, j < m → bt s (j : Int) ≠ 43
theorem Form9.wide {s : ByteArray} {a b c m : Nat} {n1 n2 n3 : Int} {pre mt : ByteArray} (h : Form9 s a b c m n1 n2 n3 pre mt) : Form s a b c m n1 n2 n3 pre mt :=
  ⟨h.size, h.d1.wide, h.p1, h.q1, h.d2.wide, h.p2, h.q2, h.d3.wide, h.cm, h.ms, h.hpre, h.hmeta, h.v1, h.v2, h.v3, h.noplus⟩
theorem NumAt9.lt {s : ByteArray} {x e : Nat} (h : NumAt9 s x e) : 0 ≤ dv s x (e - x) ∧ dv s x (e - x) < 1000000000 := by
  obtain ⟨h1, h2, h3, h4, _⟩ := h
  exact dv_nine (by omega) (fun j q1 q2 => h4 j q1 (by omega))
theorem Form9.lt {s : ByteArray} {a b c m : Nat} {n1 n2 n3 : Int} {pre mt : ByteArray} (h : Form9 s a b c m n1 n2 n3 pre mt) : (0 ≤ n1 ∧ n1 < 1000000000) ∧ (0 ≤ n2 ∧ n2 < 1000000000) ∧ (0 ≤ n3 ∧ n3 < 1000000000) := by
  have h1 := h.d1.lt
  rw [Nat.sub_zero] at h1
  have h2 := h.d2.lt
  have h3 := h.d3.lt
  rw [← h.v1] at h1
  rw [← h.v2] at h2
  rw [← h.v3] at h3
  exact ⟨h1, h2, h3⟩
theorem dv_fifteen {s : ByteArray} {x d : Nat} (hd : d ≤ 15) (h : ∀ j, x ≤ j → j < x + d → isD (bt s (j : Int))) : 0 ≤ dv s x d ∧ dv s x d < 1000000000000000 := by
  have h1 := dv_range h
  have h2 : (10 : Int) ^ d ≤ 10 ^ 15 := by
    have : (10 : Nat) ^ d ≤ 10 ^ 15 := Nat.pow_le_pow_right (by decide) hd
    exact_mod_cast this
  have h3 : (10 : Int) ^ 15 = 1000000000000000 := by decide
  omega
theorem parse_ev (s : ByteArray) : ∃ r : Int × Int × Int × ByteArray × ByteArray × Bool, Ev (fun k => spec_ParseVersion.f k s) r ∧ (r.2.2.2.2.2 = true → ∃ a b c m, Form s a b c m r.1 r.2.1 r.2.2.1 r.2.2.2.1 r.2.2.2.2.1) := by
  obtain ⟨r, h1, h2⟩ := parse_ev9 s
  refine ⟨r, h1, fun h => ?_⟩
  obtain ⟨a, b, c, m, hf⟩ := h2 h
  exact ⟨a, b, c, m, hf.wide⟩
end Go.Proofs.YtlhijjfbcgconaaGreatDoor.P


/- Versions, plain: zzLoose and ParseUint at a text that has the form of a version. -/
set_option linter.unusedVariables false
set_option linter.unusedSimpArgs false
namespace Go.Proofs.YtlhijjfbcgconaaGreatDoor.P
open Go.RowKit Go.Proofs.YtlhijjfbcgconaaGreatDoorW.PrintWords Go.Proofs.YtlhijjfbcgconaaGreatDoorW.PrintLast Go.Proofs.YtlhijjfbcgconaaGreatDoorW.PrintMore

theorem parseM_append (M : Nat) : ∀ (l1 l2 : List UInt8) (acc : Nat), Lib.parseUintM M acc (l1 ++ l2) = match Lib.parseUintM M acc l1 with | .ok a => Lib.parseUintM M a l2 | .syntax => .syntax | .range => .range
  | [], l2, acc => rfl
  | c :: r, l2, acc => by
    rw [List.cons_append, Lib.parseUintM, Lib.parseUintM]
    by_cases h1 : 48 ≤ c.toNat ∧ c.toNat ≤ 57
    · rw [if_pos h1, if_pos h1]
      by_cases h2 : 1844674407370955162 ≤ acc
      · rw [if_pos h2, if_pos h2]
      · rw [if_neg h2, if_neg h2]
        by_cases h3 : M < acc * 10 + (c.toNat - 48)
        · rw [if_pos h3, if_pos h3]
        · rw [if_neg h3, if_neg h3]
          exact parseM_append M r l2 _
    · rw [if_neg h1, if_neg h1]
theorem ext_snoc (s : ByteArray) (x d : Nat) (h : x + d < s.size) : (s.extract x (x + (d + 1))).data.toList = (s.extract x (x + d)).data.toList ++ [s[x + d]'h] := by
  rw [extract_list, extract_list, show x + (d + 1) - x = d + 1 by omega, show x + d - x = d by omega]
  have h2 : d < (s.data.toList.drop x).length := by rw [List.length_drop, Array.length_toList]; show d < s.size - x; omega
  rw [List.take_succ_eq_append_getElem h2, List.getElem_drop]
  rfl
theorem parse_run (s : ByteArray) (x : Nat) : ∀ d : Nat, d ≤ 15 → x + d ≤ s.size → (∀ j, x ≤ j → j < x + d → isD (bt s (j : Int))) → Lib.parseUintM (2 ^ 64 - 1) 0 (s.extract x (x + d)).data.toList = .ok (dv s x d).toNat ∧ 0 ≤ dv s x d ∧ dv s x d < 10 ^ d
  | 0, _, _, h => ⟨by rw [Nat.add_zero, ext_nil]; rfl, Int.le_refl 0, by show (0 : Int) < 1; decide⟩
  | d + 1, h1, h2, h3 => by
    obtain ⟨ih, i0, i1⟩ := parse_run s x d (by omega) (by omega) (fun j g1 g2 => h3 j g1 (by omega))
    have hd := h3 (x + d) (by omega) (by omega)
    unfold isD at hd
    have hb := bt_nat s (x + d) (by omega)
    rw [hb] at hd
    have hv : dv s x (d + 1) = dv s x d * 10 + ((((s[x + d]'(by omega)).toNat : Nat) : Int) - 48) := by
      show dv s x d * 10 + (bt s ((x + d : Nat) : Int) - 48) = _
      rw [hb]
    have h15 : dv s x d < 1000000000000000 := by
      have h4 : (10 : Nat) ^ d ≤ 10 ^ 14 := Nat.pow_le_pow_right (by decide) (by omega)
      have h5 : (10 : Int) ^ d ≤ 10 ^ 14 := by exact_mod_cast h4
      have h6 : (10 : Int) ^ 14 = 100000000000000 := by decide
      omega
    refine ⟨?_, ?_, ?_⟩
    · rw [ext_snoc s x d (by omega), parseM_append, ih]
      show Lib.parseUintM _ _ [_] = _
      rw [Lib.parseUintM, if_pos (by omega), if_neg (by omega), if_neg (by omega), Lib.parseUintM, hv]
      congr 1
      omega
    · omega
    · have h7 : (10 : Int) ^ (d + 1) = 10 ^ d * 10 := Int.pow_succ ..
      omega
theorem parse_at (s : ByteArray) (x e : Nat) (h : NumAt s x e) : Lib.parseUintB 64 (s.extract x e).data.toList = .ok (dv s x (e - x)).toNat ∧ 0 ≤ dv s x (e - x) ∧ dv s x (e - x) < 1000000000000000 := by
  obtain ⟨h1, h2, h3, h4, _, _⟩ := h
  obtain ⟨g1, g2, g3⟩ := parse_run s x (e - x) (by omega) (by omega) (fun j q1 q2 => h4 j q1 (by omega))
  rw [show x + (e - x) = e by omega] at g1
  refine ⟨?_, dv_fifteen (by omega) (fun j q1 q2 => h4 j q1 (by omega))⟩
  unfold Lib.parseUintB
  rw [if_neg]
  · exact g1
  · intro h0
    have : (s.extract x e).data.toList.length = 0 := by rw [h0]; rfl
    rw [size_list, ext_size _ _ _ h3] at this
    omega
theorem Form.notD {s : ByteArray} {a b c m : Nat} {n1 n2 n3 : Int} {pre mt : ByteArray} (h : Form s a b c m n1 n2 n3 pre mt) : a + 1 < b ∧ b + 1 < c ∧ 0 < a ∧ c ≤ m ∧ m ≤ s.size ∧ s.size ≤ 100 :=
  ⟨h.d2.1, h.d3.1, h.d1.1, h.cm, h.ms, h.size⟩
/-- What zzLoose gives. -/
theorem loose_ev {s : ByteArray} {a b c m : Nat} {n1 n2 n3 : Int} {pre mt : ByteArray} (h : Form s a b c m n1 n2 n3 pre mt) :
    Ev (fun k => semver_zzLoose.f k s) [s, s.extract 0 a, s.extract a b, s.extract b c, s.extract c m, pre, ⟨#[]⟩, s.extract m s.size, mt] := by
  obtain ⟨o1, o2, o3, o4, o5, o6⟩ := h.notD
  have hs : s.size ≤ 100000 := by omega
  have w1 : ∀ i : Nat, i ≤ 100 → wrap64 ((i : Int) + 1) = ((i + 1 : Nat) : Int) := fun i hi => by rw [w64_in (by omega) (by omega)]; omega
  have tn : ∀ i : Nat, ((i : Int)).toNat = i := fun i => Int.toNat_natCast i
  obtain ⟨_, _, _, da, ea, _⟩ := h.d1
  obtain ⟨_, _, _, db, eb, _⟩ := h.d2
  obtain ⟨_, _, _, dc, ec, _⟩ := h.d3
  have ra := zzDigits_run s hs 0 a (by omega) (by omega) (.inr (by rw [h.p1]; unfold isD; omega)) da
  have rb := zzDigits_run s hs (a + 1) b (by omega) (by omega) (.inr (by rw [h.p2]; unfold isD; omega)) db
  have rc := zzDigits_run s hs (b + 1) c (by omega) (by omega) ec dc
  have hb0 : bt s 0 ≠ 118 := by
    have := da 0 (Nat.le_refl _) o3
    unfold isD at this
    rw [show ((0 : Nat) : Int) = 0 from rfl] at this
    omega
  -- the end
  have r6 : Ev (fun k => semver_zzLoose.j6 k s [s, s.extract 0 a, s.extract a b, s.extract b c, s.extract c m, pre, ⟨#[]⟩, s.extract m s.size, mt] (s.size : Int)) [s, s.extract 0 a, s.extract a b, s.extract b c, s.extract c m, pre, ⟨#[]⟩, s.extract m s.size, mt] :=
    Ev.step (fun k => by rw [semver_zzLoose.j6]) (Ev.pos rfl (Ev.ok _))
  have r5 : Ev (fun k => semver_zzLoose.j5 k s [s, s.extract 0 a, s.extract a b, s.extract b c, s.extract c m, pre, ⟨#[]⟩, ⟨#[]⟩, ⟨#[]⟩] (m : Int)) [s, s.extract 0 a, s.extract a b, s.extract b c, s.extract c m, pre, ⟨#[]⟩, s.extract m s.size, mt] := by
    refine Ev.step (fun k => by rw [semver_zzLoose.j5]) ?_
    rcases h.hmeta with ⟨g1, g2⟩ | ⟨g1, g2, g3, g4⟩
    · refine Ev.bind (zzParts_none s m 43 (.inl g1)) (Ev.neg (by omega) ?_)
      rw [g1, ext_nil, g2]
      rw [g1, ext_nil, g2] at r6
      exact r6
    · refine Ev.bind (zzParts_run s hs false m s.size 43 g1 g2 (Nat.le_refl _) (.inl rfl) g3) (Ev.pos (by omega) ?_)
      rw [w1 m (by omega), tn, tn, tn]
      refine Ev.pos (by omega) (Ev.pos (by omega) (Ev.pos (by omega) (Ev.pos (by omega) (Ev.pos (by omega) (Ev.pos (by simp) (Ev.pos (by simp) ?_))))))
      rw [g4] at r6 ⊢
      exact r6
  have r4 : Ev (fun k => semver_zzLoose.j4 k s [s, s.extract 0 a, s.extract a b, s.extract b c, ⟨#[]⟩, ⟨#[]⟩, ⟨#[]⟩, ⟨#[]⟩, ⟨#[]⟩] (c : Int)) [s, s.extract 0 a, s.extract a b, s.extract b c, s.extract c m, pre, ⟨#[]⟩, s.extract m s.size, mt] := by
    refine Ev.step (fun k => by rw [semver_zzLoose.j4]) ?_
    rcases h.hpre with ⟨g1, g2⟩ | ⟨g1, g2, g3, g4⟩
    · have hno : c = s.size ∨ (c < s.size ∧ bt s (c : Int) ≠ 45) := by
        rcases h.hmeta with ⟨q1, q2⟩ | ⟨q1, q2, _⟩
        · exact .inl (by omega)
        · rw [g1]
          exact .inr ⟨q1, by rw [q2]; decide⟩
      refine Ev.bind (zzParts_none s c 45 hno) (Ev.neg (by omega) ?_)
      rw [← g1, ext_nil, g2] at r5 ⊢
      exact r5
    · have hend : m = s.size ∨ (¬ isP (bt s (m : Int)) ∧ bt s (m : Int) ≠ 46) := by
        rcases h.hmeta with ⟨q1, q2⟩ | ⟨q1, q2, _⟩
        · exact .inl q1
        · exact .inr (by rw [q2]; exact ⟨by unfold isP; omega, by decide⟩)
      refine Ev.bind (zzParts_run s hs true c m 45 (by omega) g2 (by omega) hend g3) (Ev.pos (by omega) ?_)
      rw [w1 c (by omega), tn, tn, tn]
      refine Ev.pos (by omega) (Ev.pos (by omega) (Ev.pos (by omega) (Ev.pos (by omega) (Ev.pos (by omega) (Ev.pos (by simp) (Ev.pos (by simp) ?_))))))
      rw [g4] at r5 ⊢
      exact r5
  have r3 : Ev (fun k => semver_zzLoose.l0 k s [s, s.extract 0 a, s.extract a b, s.extract b c, ⟨#[]⟩, ⟨#[]⟩, ⟨#[]⟩, ⟨#[]⟩, ⟨#[]⟩] (c : Int) 4) [s, s.extract 0 a, s.extract a b, s.extract b c, s.extract c m, pre, ⟨#[]⟩, s.extract m s.size, mt] :=
    Ev.step (fun k => by rw [semver_zzLoose.l0]) (Ev.neg (by decide) r4)
  have r2 : Ev (fun k => semver_zzLoose.l0 k s [s, s.extract 0 a, s.extract a b, ⟨#[]⟩, ⟨#[]⟩, ⟨#[]⟩, ⟨#[]⟩, ⟨#[]⟩, ⟨#[]⟩] (b : Int) 3) [s, s.extract 0 a, s.extract a b, s.extract b c, s.extract c m, pre, ⟨#[]⟩, s.extract m s.size, mt] := by
    have hq := h.q2
    refine Ev.step (fun k => by rw [semver_zzLoose.l0]) (Ev.pos (by decide) (Ev.pos (by omega) (Ev.pos (by omega) (Ev.pos h.p2 ?_))))
    rw [w1 b (by omega)]
    refine Ev.bind rc ?_
    rw [decide_eq_true (by omega)]
    refine Ev.step (fun k => by rw [semver_zzLoose.j3]) (Ev.pos rfl ?_)
    rw [w1 b (by omega), tn]
    refine Ev.bind rc ?_
    rw [tn]
    refine Ev.pos (by omega) (Ev.pos (by omega) (Ev.pos (by omega) (Ev.pos (by decide) (Ev.pos (by simp) ?_))))
    rw [show wrap64 (3 + 1) = 4 from w64_in (by decide) (by decide)]
    exact r3
  have r1 : Ev (fun k => semver_zzLoose.l0 k s [s, s.extract 0 a, ⟨#[]⟩, ⟨#[]⟩, ⟨#[]⟩, ⟨#[]⟩, ⟨#[]⟩, ⟨#[]⟩, ⟨#[]⟩] (a : Int) 2) [s, s.extract 0 a, s.extract a b, s.extract b c, s.extract c m, pre, ⟨#[]⟩, s.extract m s.size, mt] := by
    have hq := h.q1
    refine Ev.step (fun k => by rw [semver_zzLoose.l0]) (Ev.pos (by decide) (Ev.pos (by omega) (Ev.pos (by omega) (Ev.pos h.p1 ?_))))
    rw [w1 a (by omega)]
    refine Ev.bind rb ?_
    rw [decide_eq_true (by omega)]
    refine Ev.step (fun k => by rw [semver_zzLoose.j3]) (Ev.pos rfl ?_)
    rw [w1 a (by omega), tn]
    refine Ev.bind rb ?_
    rw [tn]
    refine Ev.pos (by omega) (Ev.pos (by omega) (Ev.pos (by omega) (Ev.pos (by decide) (Ev.pos (by simp) ?_))))
    rw [show wrap64 (2 + 1) = 3 from w64_in (by decide) (by decide)]
    exact r2
  have r0 : Ev (fun k => semver_zzLoose.j1 k s [s, ⟨#[]⟩, ⟨#[]⟩, ⟨#[]⟩, ⟨#[]⟩, ⟨#[]⟩, ⟨#[]⟩, ⟨#[]⟩, ⟨#[]⟩] 0) [s, s.extract 0 a, s.extract a b, s.extract b c, s.extract c m, pre, ⟨#[]⟩, s.extract m s.size, mt] := by
    refine Ev.step (fun k => by rw [semver_zzLoose.j1]) ?_
    rw [show ((0 : Nat) : Int) = 0 from rfl] at ra
    refine Ev.bind ra ?_
    refine Ev.neg (by omega) ?_
    rw [tn]
    refine Ev.pos (by decide) (Ev.pos (by omega) (Ev.pos (by omega) (Ev.pos (by simp) ?_)))
    exact r1
  have rz : Ev (fun k => semver_zzLoose.j0 k s [s, ⟨#[]⟩, ⟨#[]⟩, ⟨#[]⟩, ⟨#[]⟩, ⟨#[]⟩, ⟨#[]⟩, ⟨#[]⟩, ⟨#[]⟩] 0 false) [s, s.extract 0 a, s.extract a b, s.extract b c, s.extract c m, pre, ⟨#[]⟩, s.extract m s.size, mt] := by
    refine Ev.step (fun k => by rw [semver_zzLoose.j0]) ?_
    exact Ev.neg (by decide) r0
  unfold semver_zzLoose.f
  refine Ev.pos (by decide) (Ev.bind (Ev.ok _) (Ev.pos (by simp) (Ev.bind (Ev.ok _) ?_)))
  refine Ev.pos (by omega) ?_
  rw [beq_eq_false_iff_ne.2 hb0]
  exact rz
end Go.Proofs.YtlhijjfbcgconaaGreatDoor.P


/- Versions: the package's tests of what stands behind a hyphen or a plus sign. -/
set_option linter.unusedVariables false
set_option linter.unusedSimpArgs false
namespace Go.Proofs.YtlhijjfbcgconaaGreatDoor.P
open Go.RowKit Go.Proofs.YtlhijjfbcgconaaGreatDoorW.PrintWords Go.Proofs.YtlhijjfbcgconaaGreatDoorW.PrintLast Go.Proofs.YtlhijjfbcgconaaGreatDoorW.PrintMore

theorem full_t {s : ByteArray} (h : 0 < s.size) : s.toList.isEmpty = false := by
  cases hl : s.toList.isEmpty with
  | false => rfl
  | true =>
    exfalso
    have := List.isEmpty_iff.1 hl
    rw [ByteArray.toList_eq] at this
    have h2 := size_list s
    rw [this] at h2
    simp at h2
    omega
def numT : ByteArray := ⟨#[48, 49, 50, 51, 52, 53, 54, 55, 56, 57]⟩
def allT : ByteArray := ⟨#[97, 98, 99, 100, 101, 102, 103, 104, 105, 106, 107, 108, 109, 110, 111, 112, 113, 114, 115, 116, 117, 118, 119, 120, 121, 122, 65, 66, 67, 68, 69, 70, 71, 72, 73, 74, 75, 76, 77, 78, 79, 80, 81, 82, 83, 84, 85, 86, 87, 88, 89, 90, 45, 48, 49, 50, 51, 52, 53, 54, 55, 56, 57]⟩
theorem num_ascii : ascii numT := by
  intro i hi
  have h : ∀ j : Fin 10, bt numT ((j.val : Nat) : Int) < 128 := by decide +kernel
  exact h ⟨i, hi⟩
theorem all_ascii : ascii allT := by
  intro i hi
  have h : ∀ j : Fin 63, bt allT ((j.val : Nat) : Int) < 128 := by decide +kernel
  exact h ⟨i, hi⟩
theorem num_mem {x : Int} (h0 : 0 ≤ x) (h1 : x < 128) : x ∈ nums8 numT ↔ isD x := by
  have h : ∀ j : Fin 128, ((j.val : Nat) : Int) ∈ nums8 numT ↔ isD ((j.val : Nat) : Int) := by decide +kernel
  have := h ⟨x.toNat, by omega⟩
  rw [show ((x.toNat : Nat) : Int) = x by omega] at this
  exact this
theorem all_mem {x : Int} (h0 : 0 ≤ x) (h1 : x < 128) : x ∈ nums8 allT ↔ isP x := by
  have h : ∀ j : Fin 128, ((j.val : Nat) : Int) ∈ nums8 allT ↔ isP ((j.val : Nat) : Int) := by decide +kernel
  have := h ⟨x.toNat, by omega⟩
  rw [show ((x.toNat : Nat) : Int) = x by omega] at this
  exact this
theorem isP_range {x : Int} (h : isP x) : 0 ≤ x ∧ x < 128 := by unfold isP at h; omega
theorem ascii_of_isP {t : ByteArray} (h : ∀ j : Nat, j < t.size → isP (bt t (j : Int))) : ascii t := fun j hj => (isP_range (h j hj)).2
theorem nums_iff {t : ByteArray} {Q : Int → Prop} : (∀ x ∈ nums8 t, Q x) ↔ ∀ j : Nat, j < t.size → Q (bt t (j : Int)) := by
  constructor
  · intro h j hj
    rw [← nums8_at t j hj]
    exact h _ (List.getElem_mem _)
  · intro h x hx
    obtain ⟨j, hj, rfl⟩ := List.getElem_of_mem hx
    rw [nums8_length] at hj
    rw [nums8_at t j hj]
    exact h j hj
/-- The first place of a number. -/
def fbR (p : ByteArray) (r : Int) : Nat → Nat → Int
  | 0, _ => -1
  | f + 1, k => if bt p (k : Int) = r then (k : Int) else fbR p r f (k + 1)
theorem fbR_mem (p : ByteArray) (r : Int) : ∀ f k, k + f = p.size → (0 ≤ fbR p r f k ↔ ∃ j, k ≤ j ∧ j < p.size ∧ bt p (j : Int) = r)
  | 0, k, h => ⟨fun q => absurd q (by unfold fbR; omega), fun ⟨j, h1, h2, _⟩ => by omega⟩
  | f + 1, k, h => by
    unfold fbR
    split
    · rename_i c
      exact ⟨fun _ => ⟨k, Nat.le_refl _, by omega, c⟩, fun _ => by omega⟩
    · rename_i c
      rw [fbR_mem p r f (k + 1) (by omega)]
      constructor
      · rintro ⟨j, h1, h2, h3⟩
        exact ⟨j, by omega, h2, h3⟩
      · rintro ⟨j, h1, h2, h3⟩
        refine ⟨j, ?_, h2, h3⟩
        rcases Nat.lt_or_ge k j with q | q
        · omega
        · obtain rfl : j = k := by omega
          exact absurd h3 c
theorem fbR_in (p : ByteArray) (r : Int) : 0 ≤ fbR p r p.size 0 ↔ r ∈ nums8 p := by
  rw [fbR_mem p r p.size 0 (by omega)]
  constructor
  · rintro ⟨j, _, h2, h3⟩
    rw [← h3, ← nums8_at p j h2]
    exact List.getElem_mem _
  · intro h
    obtain ⟨j, hj, he⟩ := List.getElem_of_mem h
    rw [nums8_length] at hj
    rw [nums8_at p j hj] at he
    exact ⟨j, Nat.zero_le _, hj, he⟩
set_option maxHeartbeats 1600000 in
set_option maxRecDepth 100000 in
theorem idxRune_call (p : ByteArray) (ha : ascii p) (hs : p.size ≤ 500) (r : Int) (r0 : 0 ≤ r) (r1 : r < 128) (w : World) :
    Calls Tryz.prog 79 #[.string p, .int .i32 r] w fun e w' => e = .returned (.int .i64 (fbR p r p.size 0)) ∧ Below w.heap.size w w' := by
  have HA := Lib.hid ha
  have HB := Lib.hid (fun o => (Below.refl w.heap.size w).alloc (Nat.le_refl _) o)
  obtain ⟨R, hR⟩ : ∃ R, R = fbR p r p.size 0 := ⟨_, rfl⟩
  have HR := Lib.hid hR
  have e1 : (r == 65533) = false := beq_eq_false_iff_ne.2 (by omega)
  have e2 : (r != 65533) = true := bne_iff_ne.2 (by omega)
  have e3 : decide (r < 0) = false := decide_eq_false (by omega)
  have e4 : decide (1114111 < r) = false := decide_eq_false (by omega)
  have e5 : decide (55296 ≤ r) = false := decide_eq_false (by omega)
  rw [← hR]
  clear ha hR
  go_enter Tryz.func79, Tryz.ntmps79
  go_wp2
  go_loopw [5, 6] (fun y z wr => ∃ (k : Nat) (yv zv : Value), wr = w.iter p k ∧ yv = y ∧ zv = z ∧ k ≤ p.size ∧ Hid (R = fbR p r (p.size - k) k)) (fun _ _ wr => p.size - wr.iterPos w.heap.size)
  case atStart => exact ⟨0, _, _, rfl, rfl, rfl, Nat.zero_le _, HR⟩
  case round =>
    obtain ⟨k, yv, zv, rfl, rfl, rfl, hk, hX⟩ := hrel
    by_cases ck : k < p.size
    · have hnx : ∀ ty, (Instr.next (.pointer (some ⟨w.heap.size, 0, none⟩)) true ty).run Tryz.prog (w.iter p k) = _ := fun ty => run_next_any w p k ty ck
      have hlt : (p[k]'ck).toNat < 128 := by have := HA.out k ck; rw [bt_nat p k ck] at this; omega
      rw [decode_ascii p k ck hlt] at hnx
      have hX1 := hX.out
      obtain ⟨q, hq⟩ : ∃ q, p.size - k = q + 1 := ⟨p.size - k - 1, by omega⟩
      rw [hq] at hX1
      unfold fbR at hX1
      obtain ⟨m, hm⟩ : ∃ m, m = bt p (k : Int) := ⟨_, rfl⟩
      have hmv : (((p[k]'ck).toNat : Nat) : Int) = m := by rw [hm, bt_nat p k ck]
      rw [← hm] at hX1
      simp only [hmv] at hnx
      clear hm hmv hlt hX
      by_cases hrm : m = r
      · rw [if_pos hrm] at hX1
        subst hrm hX1
        clear hq
        go_wp2
        go_ret
        exact ⟨rfl, HB.out _⟩
      · rw [if_neg hrm] at hX1
        have HX := Lib.hid (show R = fbR p r (p.size - (k + 1)) (k + 1) by rw [show p.size - (k + 1) = q by omega]; exact hX1)
        clear hX1 hq
        go_wp2
        go_roundw
        case rel => exact ⟨k + 1, _, _, rfl, rfl, rfl, by omega, HX⟩
        case measure => simp; omega
    · obtain rfl : k = p.size := by omega
      have hX1 := hX.out
      rw [Nat.sub_self] at hX1
      have hX2 : R = -1 := hX1
      subst hX2
      clear hX1 hX
      have hnx := fun ty => run_next_end (P := Tryz.prog) w p p.size ty (Nat.lt_irrefl _)
      go_wp2
      go_ret
      exact ⟨rfl, HB.out _⟩
set_option maxHeartbeats 1600000 in
set_option maxRecDepth 100000 in
theorem hasRune_call (p : ByteArray) (ha : ascii p) (hs : p.size ≤ 500) (r : Int) (r0 : 0 ≤ r) (r1 : r < 128) (w : World) :
    Calls Tryz.prog 64 #[.string p, .int .i32 r] w fun e w' => e = .returned (.bool (decide (r ∈ nums8 p))) ∧ Below w.heap.size w w' := by
  have HI := Lib.hid (idxRune_call p ha hs r r0 r1 w)
  have HD := Lib.hid (show decide (r ∈ nums8 p) = decide (0 ≤ fbR p r p.size 0) from decide_eq_decide.2 (fbR_in p r).symm)
  rw [HD.out]
  clear HD ha hs
  generalize fbR p r p.size 0 = v at *
  go_enter Tryz.func64, Tryz.ntmps64
  go_wp2_with fail
  refine HI.out.mono ?_
  rintro e w1 ⟨rfl, hb1⟩
  have HB1 := Lib.hid hb1
  clear hb1 HI
  go_wp2
  go_ret
  exact ⟨rfl, HB1.out⟩
set_option maxHeartbeats 1600000 in
set_option maxRecDepth 100000 in
theorem only_call (t p : ByteArray) (ht : ascii t) (htz : t.size ≤ 500) (ha : ascii p) (hs : p.size ≤ 500) (w : World) :
    Calls Tryz.prog 49 #[.string t, .string p] w fun e w' => e = .returned (.bool (decide (∀ x ∈ nums8 t, x ∈ nums8 p))) ∧ Below w.heap.size w w' := by
  have HT := Lib.hid ht
  have HC := Lib.hid (fun r r0 r1 W => hasRune_call p ha hs r r0 r1 W)
  have HB0 := Lib.hid (fun o => (Below.refl w.heap.size w).alloc (Nat.le_refl _) o)
  have HLN := Lib.hid (nums8_length t)
  clear ht ha hs
  go_enter Tryz.func49, Tryz.ntmps49
  go_wp2
  go_loopw [6] (fun z wr => ∃ (k : Nat) (zv : Value), zv = z ∧ k ≤ t.size ∧ Hid (wr.heap[w.heap.size]? = some (.stringIter t k)) ∧ Hid (w.heap.size + 1 ≤ wr.heap.size) ∧ Hid (Below w.heap.size w wr) ∧ Hid (∀ x ∈ (nums8 t).take k, x ∈ nums8 p)) (fun _ wr => t.size - wr.iterPos w.heap.size)
  case atStart => exact ⟨0, _, rfl, Nat.zero_le _, Lib.hid (heap_alloc_new w (.stringIter t 0)), Lib.hid (by simp [World.iter]), HB0.out _, Lib.hid (fun x hx => by simp at hx)⟩
  case round =>
    obtain ⟨k, zv, rfl, hk, hI, hS, hB, hX⟩ := hrel
    by_cases ck : k < t.size
    · have hnx : ∀ ty, (Instr.next (.pointer (some ⟨w.heap.size, 0, none⟩)) true ty).run Tryz.prog wr = _ := fun ty => Lib.run_next_any_at wr w.heap.size t k ty hI.out ck
      have hlt : (t[k]'ck).toNat < 128 := by have := HT.out k ck; rw [bt_nat t k ck] at this; omega
      rw [decode_ascii t k ck hlt] at hnx
      obtain ⟨W2, hW2⟩ : ∃ W2, W2 = wr.iterAt w.heap.size t (k + 1) := ⟨_, rfl⟩
      have hI2 := Lib.hid (show W2.heap[w.heap.size]? = some (.stringIter t (k + 1)) by rw [hW2]; exact Lib.iterAt_heap _ _ _ _ _ hI.out)
      have hS2 := Lib.hid (show w.heap.size + 1 ≤ W2.heap.size by rw [hW2, Lib.iterAt_size]; exact hS.out)
      have hB2 := Lib.hid (show Below w.heap.size w W2 by rw [hW2]; exact Lib.below_iterAt hB.out (Nat.le_refl _) _ _)
      have hP := Lib.hid (iterPos_of hI.out)
      obtain ⟨m, hm⟩ : ∃ m, m = bt t (k : Int) := ⟨_, rfl⟩
      have hmv : (((t[k]'ck).toNat : Nat) : Int) = m := by rw [hm, bt_nat t k ck]
      have hkl : k < (nums8 t).length := by rw [HLN.out]; exact ck
      have HTK := Lib.hid (show (nums8 t).take (k + 1) = (nums8 t).take k ++ [m] by rw [hm, ← nums8_at t k ck]; exact List.take_succ_eq_append_getElem hkl)
      have HMM := Lib.hid (show m ∈ nums8 t by rw [hm, ← nums8_at t k ck]; exact List.getElem_mem _)
      have hm0 : 0 ≤ m := by rw [← hmv]; omega
      have hm1 : m < 128 := by rw [← hmv]; omega
      have HC1 := Lib.hid (HC.out m hm0 hm1 W2)
      simp only [hmv] at hnx
      rw [← hW2] at hnx
      clear hm hmv hlt hkl hW2 hm0 hm1
      by_cases hin : m ∈ nums8 p
      · have HX2 := Lib.hid (show ∀ x ∈ (nums8 t).take (k + 1), x ∈ nums8 p by
          rw [HTK.out]
          intro x hx
          rcases List.mem_append.1 hx with hx | hx
          · exact hX.out x hx
          · rw [List.mem_singleton.1 hx]; exact hin)
        rw [decide_eq_true hin] at HC1
        clear hX hin HTK HMM
        go_wp2_with fail
        refine HC1.out.mono ?_
        rintro e w3 ⟨rfl, hb3⟩
        have HI3 := Lib.hid (show w3.heap[w.heap.size]? = some (.stringIter t (k + 1)) by rw [hb3.block _ (by have := hS2.out; omega)]; exact hI2.out)
        have HS3 := Lib.hid (show w.heap.size + 1 ≤ w3.heap.size from Nat.le_trans hS2.out hb3.size)
        have HB3 := Lib.hid (show Below w.heap.size w w3 from hB2.out.trans (hb3.mono (by have := hS2.out; omega)))
        have HP3 := Lib.hid (iterPos_of HI3.out)
        clear hb3 HC1 hI2 hS2 hB2 hI hS hB hnx
        go_wp2
        go_roundw
        case rel => exact ⟨k + 1, _, rfl, by omega, HI3, HS3, HB3, HX2⟩
        case measure => rw [HP3.out, hP.out]; omega
      · have HD := Lib.hid (show decide (∀ x ∈ nums8 t, x ∈ nums8 p) = false from decide_eq_false (fun q => hin (q m HMM.out)))
        rw [decide_eq_false hin] at HC1
        clear hX hin HTK HMM
        go_wp2_with fail
        refine HC1.out.mono ?_
        rintro e w3 ⟨rfl, hb3⟩
        have HB3 := Lib.hid (show Below w.heap.size w w3 from hB2.out.trans (hb3.mono (by have := hS2.out; omega)))
        clear hb3 HC1 hI2 hS2 hB2 hI hS hB hnx
        go_wp2
        go_ret
        exact ⟨congrArg (fun z => Ending.returned (Value.bool z)) HD.out.symm, HB3.out⟩
    · obtain rfl : k = t.size := by omega
      have hnx : ∀ ty, (Instr.next (.pointer (some ⟨w.heap.size, 0, none⟩)) true ty).run Tryz.prog wr = _ := fun ty => Lib.run_next_end_at wr w.heap.size t t.size ty hI.out (Nat.lt_irrefl _)
      have HD := Lib.hid (show decide (∀ x ∈ nums8 t, x ∈ nums8 p) = true from decide_eq_true (by have := hX.out; rw [← HLN.out, List.take_length] at this; exact this))
      clear hX
      go_wp2
      go_ret
      exact ⟨congrArg (fun z => Ending.returned (Value.bool z)) HD.out.symm, hB.out⟩
/-! ### parts -/
theorem ext_one (p : ByteArray) (x : Nat) (h : x < p.size) : (p.extract x (x + 1)).data.toList = [p[x]'h] := by
  have h4 := ext_snoc p x 0 h
  rw [show (p.extract x (x + 0)).data.toList = [] by rw [show x + 0 = x from rfl, ext_nil]] at h4
  exact h4
theorem index_dot (p : ByteArray) (hp : p.size ≤ 1000) (z : Nat) (hz : z ≤ p.size) (hend : z = p.size ∨ bt p (z : Int) = 46) : ∀ n x : Nat, x + n = z → (∀ j, x ≤ j → j < z → bt p (j : Int) ≠ 46) →
    Ev (fun k => semver_zzIndex.l0 k p ⟨#[46]⟩ (x : Int)) (if z = p.size then -1 else (z : Int))
  | 0, x, hx, _ => by
    obtain rfl : x = z := by omega
    have h1 : ((⟨#[46]⟩ : ByteArray).size : Int) = 1 := rfl
    refine Ev.step (fun k => by rw [semver_zzIndex.l0]) ?_
    rw [h1, w64_in (by omega) (by omega)]
    by_cases c : x = p.size
    · rw [if_pos c]
      exact Ev.neg (by omega) (Ev.ok _)
    · rw [if_neg c]
      refine Ev.pos (by omega) (Ev.pos (by omega) (Ev.pos (by omega) (Ev.pos ?_ (Ev.ok _))))
      rcases hend with h | h
      · exact absurd h c
      · rw [show ((x : Int) + 1).toNat = x + 1 by omega, Int.toNat_natCast, ByteArray.toList_eq, ByteArray.toList_eq]
        have h2 := bt_nat p x (by omega)
        rw [h] at h2
        have h3 : p[x]'(by omega) = 46 := UInt8.toNat_inj.1 (by show _ = 46; omega)
        rw [ext_one p x (by omega), h3]
  | n + 1, x, hx, hno => by
    have h1 : ((⟨#[46]⟩ : ByteArray).size : Int) = 1 := rfl
    have ih := index_dot p hp z hz hend n (x + 1) (by omega) (fun j h2 h3 => hno j (by omega) h3)
    refine Ev.step (fun k => by rw [semver_zzIndex.l0]) ?_
    rw [h1, w64_in (by omega) (by omega)]
    refine Ev.pos (by omega) (Ev.pos (by omega) (Ev.pos (by omega) (Ev.neg ?_ ?_)))
    · intro h
      rw [show ((x : Int) + 1).toNat = x + 1 by omega, Int.toNat_natCast, ByteArray.toList_eq, ByteArray.toList_eq] at h
      rw [ext_one p x (by omega)] at h
      have h5 : p[x]'(by omega) = 46 := by
        have : [p[x]'(by omega)] = [(46 : UInt8)] := h
        exact (List.cons.inj this).1
      have h6 := bt_nat p x (by omega)
      rw [h5] at h6
      exact hno x (Nat.le_refl _) (by omega) h6
    · rw [show (x : Int) + 1 = ((x + 1 : Nat) : Int) by omega]
      exact ih
/-- An identifier that is well. -/
def Good (strict : Bool) (t : ByteArray) : Prop := 0 < t.size ∧ t.size ≤ 100 ∧ (∀ j : Nat, j < t.size → isP (bt t (j : Int))) ∧ (strict = true → okSeg t 0 t.size)
theorem good_cut {p : ByteArray} {strict : Bool} {x z : Nat} (hp : p.size ≤ 100) (hz : z ≤ p.size) (h : x < z) (hP : ∀ j, x ≤ j → j < z → isP (bt p (j : Int))) (hs : strict = true → okSeg p x z) : Good strict (p.extract x z) := by
  have hzz : (p.extract x z).size = z - x := ext_size _ _ _ hz
  refine ⟨by omega, by omega, fun j hj => ?_, fun q => ?_⟩
  · rw [bt_ext p x z j (by omega)]
    exact hP (x + j) (by omega) (by omega)
  · rw [hzz]
    refine (okSeg_ext (by omega)).2 ?_
    rw [Nat.add_zero, show x + (z - x) = z by omega]
    exact hs q
theorem split_l (p : ByteArray) (hp : p.size ≤ 100) (strict : Bool) : ∀ {x : Nat}, PF p strict p.size x → ∀ acc : List ByteArray, acc.length + (p.size - x) ≤ 1000 →
    ∃ l : List ByteArray, Ev (fun k => semver_zzSplit.l0 k (p.extract x p.size) ⟨#[46]⟩ acc) (acc ++ l) ∧ (∀ t ∈ l, Good strict t) ∧ l.length + x ≤ p.size ∧ 0 < l.length := by
  intro x h
  have h1 : ((⟨#[46]⟩ : ByteArray).size : Int) = 1 := rfl
  induction h with
  | @last x h hP hs =>
    intro acc hacc
    have hz : (p.extract x p.size).size = p.size - x := ext_size _ _ _ (Nat.le_refl _)
    have hi := index_dot (p.extract x p.size) (by omega) (p.extract x p.size).size (Nat.le_refl _) (.inl rfl) (p.extract x p.size).size 0 (by omega) (fun j _ hj => by
      rw [bt_ext p x p.size j (by omega)]
      intro q
      have := hP (x + j) (by omega) (by omega)
      rw [q] at this
      exact dot_notP this)
    rw [if_pos rfl] at hi
    refine ⟨[p.extract x p.size], ?_, fun t ht => ?_, by simp; omega, by simp⟩
    · refine Ev.step (fun k => by rw [semver_zzSplit.l0]) ?_
      refine Ev.bind (by unfold semver_zzIndex.f; exact hi) ?_
      exact Ev.pos (by decide) (Ev.pos (by omega) (Ev.ok _))
    · rw [List.mem_singleton.1 ht]
      exact good_cut hp (Nat.le_refl _) h hP hs
  | @more x z h hz2 hP hs hd r ih =>
    intro acc hacc
    have hz : (p.extract x p.size).size = p.size - x := ext_size _ _ _ (Nat.le_refl _)
    obtain ⟨l, hl1, hl2, hl3, hl4⟩ := ih (acc ++ [p.extract x z]) (by rw [List.length_append, List.length_singleton]; omega)
    have hi := index_dot (p.extract x p.size) (by omega) (z - x) (by omega) (.inr (by rw [bt_ext p x p.size (z - x) (by omega), show x + (z - x) = z by omega]; exact hd)) (z - x) 0 (by omega) (fun j _ hj => by
      rw [bt_ext p x p.size j (by omega)]
      intro q
      have := hP (x + j) (by omega) (by omega)
      rw [q] at this
      exact dot_notP this)
    rw [if_neg (by omega)] at hi
    refine ⟨p.extract x z :: l, ?_, fun t ht => ?_, by rw [List.length_cons]; omega, by simp⟩
    · refine Ev.step (fun k => by rw [semver_zzSplit.l0]) ?_
      refine Ev.bind (by unfold semver_zzIndex.f; exact hi) ?_
      rw [h1, w64_in (by omega) (by omega), show (((z - x : Nat) : Int) + 1).toNat = z - x + 1 by omega, Int.toNat_natCast]
      refine Ev.neg (by omega) (Ev.pos (by omega) (Ev.pos (by omega) (Ev.pos (by omega) (Ev.pos (by omega) (Ev.pos (by omega) ?_)))))
      rw [hz, ext_ext p x p.size _ _ (by omega), ext_ext p x p.size _ _ (by omega), show x + (z - x + 1) = z + 1 by omega, show x + (p.size - x) = p.size by omega, show x + (z - x) = z by omega, Nat.add_zero, show acc ++ p.extract x z :: l = (acc ++ [p.extract x z]) ++ l by rw [List.append_assoc]; rfl]
      exact hl1
    · rcases List.mem_cons.1 ht with ht | ht
      · rw [ht]
        exact good_cut hp (by omega) h hP hs
      · exact hl2 t ht
theorem split_ev (p : ByteArray) (hp : p.size ≤ 100) (strict : Bool) (h : PF p strict p.size 0) : ∃ l : List ByteArray, Ev (fun k => semver_zzSplit.f k p ⟨#[46]⟩) l ∧ (∀ t ∈ l, Good strict t) ∧ l.length ≤ 100 := by
  obtain ⟨l, h1, h2, h3, _⟩ := split_l p hp strict h [] (by simp; omega)
  rw [ext_all] at h1
  exact ⟨l, by unfold semver_zzSplit.f; exact h1, h2, by omega⟩
set_option maxHeartbeats 1600000 in
set_option maxRecDepth 100000 in
theorem validMeta (p : ByteArray) (hp : p.size ≤ 100) (h : PF p false p.size 0) (w : World) :
    Calls Tryz.prog 41 #[.string p] w fun e w' => e = .returned .nilIface ∧ Below w.heap.size w w' := by
  obtain ⟨l, ⟨K, hK⟩, hg, hl⟩ := split_ev p hp false h
  have HSP := Lib.hid (semver_zzSplit.calls K p ⟨#[46]⟩ l w (hK K (Nat.le_refl _)))
  have HG := Lib.hid hg
  clear hK hg h
  go_enter Tryz.func41, Tryz.ntmps41
  go_wp2_with fail
  refine HSP.out.mono ?_
  rintro e w1 ⟨v, rfl, hr, hb⟩
  obtain ⟨A, c, rfl, hle, hC⟩ := Kd.R_reads hr
  have HC := Lib.hid hC
  have HB := Lib.hid hb
  clear hr hb hC hle HSP
  go_wp2
  go_loopw [5, 10] (fun y i wr => ∃ (k : Nat) (yv : Value), yv = y ∧ i = .int .i64 k ∧ k ≤ l.length ∧ Hid (Below w1.heap.size w1 wr)) (fun _ i _ => l.length - (intOf i).toNat)
  case atStart => exact ⟨0, _, rfl, rfl, Nat.zero_le _, Lib.hid (Below.refl _ _)⟩
  case round =>
    obtain ⟨k, yv, rfl, rfl, hk, hW⟩ := hrel
    by_cases ck : k < l.length
    · obtain ⟨ad, rfl, q0⟩ := Kd.at_string (Kd.C_below HC.out hW.out) (k : Int) (by omega) (by omega)
      obtain ⟨t, ht⟩ : ∃ t, t = l[k] := ⟨_, rfl⟩
      have q1 : wr.cell? (ad.add k) = some (.string t) := by
        have h1 : rdOf (⟨#[]⟩ : ByteArray) l (k : Int) = t := by rw [ht]; simp [rdOf, ck]
        rw [← h1]
        exact q0
      have hgt := HG.out t (by rw [ht]; exact List.getElem_mem _)
      obtain ⟨g1, g2, g3, g4⟩ := hgt
      have hne := full_t g1
      have hasc := ascii_of_isP g3
      have HALL := Lib.hid (fun W => only_call t allT hasc (by omega) all_ascii (by decide) W)
      have HDA := Lib.hid (show decide (∀ x ∈ nums8 t, x ∈ nums8 allT) = true from decide_eq_true (nums_iff.2 (fun j hj => (all_mem (isP_range (g3 j hj)).1 (isP_range (g3 j hj)).2).2 (g3 j hj))))
      rw [HDA.out] at HALL
      have HBT := Lib.hid (fun (W : World) (hb : Below wr.heap.size wr W) => show Below w1.heap.size w1 W from hW.out.trans (hb.mono hW.out.size))
      clear ht q0 g1 g3 g4 hasc HDA hW
      go_wp2_with fail
      refine (HALL.out _).mono ?_
      rintro e w3 ⟨rfl, hb3⟩
      have HB3 := Lib.hid (HBT.out _ hb3)
      clear hb3 HALL HBT q1
      go_wp2
      go_roundw
      case rel => exact ⟨k + 1, _, rfl, by go_num, by omega, HB3⟩
      case measure => simp [intOf]; omega
    · obtain rfl : k = l.length := by omega
      have HF := Lib.hid (HB.out.trans (hW.out.mono HB.out.size))
      clear hW
      go_wp2
      go_ret
      exact ⟨rfl, HF.out⟩
set_option maxHeartbeats 1600000 in
set_option maxRecDepth 100000 in
theorem validPre (p : ByteArray) (hp : p.size ≤ 100) (h : PF p true p.size 0) (w : World) :
    Calls Tryz.prog 40 #[.string p] w fun e w' => e = .returned .nilIface ∧ Below w.heap.size w w' := by
  obtain ⟨l, ⟨K, hK⟩, hg, hl⟩ := split_ev p hp true h
  have HSP := Lib.hid (semver_zzSplit.calls K p ⟨#[46]⟩ l w (hK K (Nat.le_refl _)))
  have HG := Lib.hid hg
  clear hK hg h
  go_enter Tryz.func40, Tryz.ntmps40
  go_wp2_with fail
  refine HSP.out.mono ?_
  rintro e w1 ⟨v, rfl, hr, hb⟩
  obtain ⟨A, c, rfl, hle, hC⟩ := Kd.R_reads hr
  have HC := Lib.hid hC
  have HB := Lib.hid hb
  clear hr hb hC hle HSP
  go_wp2
  go_loopw [5, 10] (fun y i wr => ∃ (k : Nat) (yv : Value), yv = y ∧ i = .int .i64 k ∧ k ≤ l.length ∧ Hid (Below w1.heap.size w1 wr)) (fun _ i _ => l.length - (intOf i).toNat)
  case atStart => exact ⟨0, _, rfl, rfl, Nat.zero_le _, Lib.hid (Below.refl _ _)⟩
  case round =>
    obtain ⟨k, yv, rfl, rfl, hk, hW⟩ := hrel
    by_cases ck : k < l.length
    · obtain ⟨ad, rfl, q0⟩ := Kd.at_string (Kd.C_below HC.out hW.out) (k : Int) (by omega) (by omega)
      obtain ⟨t, ht⟩ : ∃ t, t = l[k] := ⟨_, rfl⟩
      have q1 : wr.cell? (ad.add k) = some (.string t) := by
        have h1 : rdOf (⟨#[]⟩ : ByteArray) l (k : Int) = t := by rw [ht]; simp [rdOf, ck]
        rw [← h1]
        exact q0
      have hgt := HG.out t (by rw [ht]; exact List.getElem_mem _)
      obtain ⟨g1, g2, g3, g4⟩ := hgt
      have hne := full_t g1
      have hasc := ascii_of_isP g3
      have HALL := Lib.hid (fun W => only_call t allT hasc (by omega) all_ascii (by decide) W)
      have HDA := Lib.hid (show decide (∀ x ∈ nums8 t, x ∈ nums8 allT) = true from decide_eq_true (nums_iff.2 (fun j hj => (all_mem (isP_range (g3 j hj)).1 (isP_range (g3 j hj)).2).2 (g3 j hj))))
      rw [HDA.out] at HALL
      have HBT := Lib.hid (fun (W : World) (hb : Below wr.heap.size wr W) => show Below w1.heap.size w1 W from hW.out.trans (hb.mono hW.out.size))
      have HNUM := Lib.hid (fun W => only_call t numT hasc (by omega) num_ascii (by decide) W)
      have hdig : (∀ x ∈ nums8 t, x ∈ nums8 numT) ↔ ∀ j : Nat, j < t.size → isD (bt t (j : Int)) := by
        rw [nums_iff]
        exact ⟨fun q j hj => (num_mem (isP_range (g3 j hj)).1 (isP_range (g3 j hj)).2).1 (q j hj), fun q j hj => (num_mem (isP_range (g3 j hj)).1 (isP_range (g3 j hj)).2).2 (q j hj)⟩
      by_cases hd : ∀ j : Nat, j < t.size → isD (bt t (j : Int))
      · have HDN := Lib.hid (show decide (∀ x ∈ nums8 t, x ∈ nums8 numT) = true from decide_eq_true (hdig.2 hd))
        rw [HDN.out] at HNUM
        have hok := g4 rfl
        unfold okSeg at hok
        by_cases c1 : 1 < t.size
        · have h48 : ¬ (((t[0]'g1).toNat : Nat) : Int) = 48 := by
            rw [← bt_nat t 0 g1]
            intro q
            exact hok (by omega) q (fun j _ hj => hd j hj)
          have c1b : decide (1 < (t.size : Int)) = true := decide_eq_true (by omega)
          have h48b : ((((t[0]'g1).toNat : Nat) : Int) == 48) = false := beq_eq_false_iff_ne.2 h48
          clear ht q0 g3 g4 hasc HDA hW hdig hd HDN hok HALL h48
          go_wp2_with fail
          refine (HNUM.out _).mono ?_
          rintro e w3 ⟨rfl, hb3⟩
          have HB3 := Lib.hid (HBT.out _ hb3)
          clear hb3 HNUM HBT q1
          go_wp2
          go_roundw
          case rel => exact ⟨k + 1, _, rfl, by go_num, by omega, HB3⟩
          case measure => simp [intOf]; omega
        · have c1b : decide (1 < (t.size : Int)) = false := decide_eq_false (by omega)
          clear ht q0 g3 g4 hasc HDA hW hdig hd HDN hok HALL
          go_wp2_with fail
          refine (HNUM.out _).mono ?_
          rintro e w3 ⟨rfl, hb3⟩
          have HB3 := Lib.hid (HBT.out _ hb3)
          clear hb3 HNUM HBT q1
          go_wp2
          go_roundw
          case rel => exact ⟨k + 1, _, rfl, by go_num, by omega, HB3⟩
          case measure => simp [intOf]; omega
      · have HDN := Lib.hid (show decide (∀ x ∈ nums8 t, x ∈ nums8 numT) = false from decide_eq_false (fun q => hd (hdig.1 q)))
        rw [HDN.out] at HNUM
        clear ht q0 g1 g3 g4 hasc HDA hW hdig hd HDN
        go_wp2_with fail
        refine (HNUM.out _).mono ?_
        rintro e w3 ⟨rfl, hb3⟩
        have HB3 := Lib.hid (HBT.out _ hb3)
        clear hb3 HNUM HBT q1
        go_wp2_with fail
        refine (HALL.out _).mono ?_
        rintro e w4 ⟨rfl, hb4⟩
        have HB4 := Lib.hid (HB3.out.trans (hb4.mono HB3.out.size))
        clear hb4 HALL HB3
        go_wp2
        go_roundw
        case rel => exact ⟨k + 1, _, rfl, by go_num, by omega, HB4⟩
        case measure => simp [intOf]; omega
    · obtain rfl : k = l.length := by omega
      have HF := Lib.hid (HB.out.trans (hW.out.mono HB.out.size))
      clear hW
      go_wp2
      go_ret
      exact ⟨rfl, HF.out⟩
end Go.Proofs.YtlhijjfbcgconaaGreatDoor.P


/- Versions: semver.NewVersion of a text that has the form of a version. -/
set_option linter.unusedVariables false
set_option linter.unusedSimpArgs false
namespace Go.Proofs.YtlhijjfbcgconaaGreatDoor.P
open Go.RowKit Go.Proofs.YtlhijjfbcgconaaGreatDoorW.PrintWords Go.Proofs.YtlhijjfbcgconaaGreatDoorW.PrintLast Go.Proofs.YtlhijjfbcgconaaGreatDoorW.PrintMore

/-- The six cells of a version of the package. -/
def verCells (n1 n2 n3 : Int) (pre mt og : ByteArray) : Array Value := #[.int .u64 n1, .int .u64 n2, .int .u64 n3, .string pre, .string mt, .string og]
theorem trim_dot {s : ByteArray} {a b : Nat} (ha : bt s (a : Int) = 46) (h : a + 1 < b) (hb : b ≤ s.size) : (⟨(Lib.trimPrefix (s.extract a b).data.toList (⟨#[46]⟩ : ByteArray).data.toList).toArray⟩ : ByteArray) = s.extract (a + 1) b := by
  have h1 := bt_nat s a (by omega)
  rw [ha] at h1
  have h2 : s[a]'(by omega) = 46 := UInt8.toNat_inj.1 (by show _ = 46; omega)
  have h3 : (s.extract a b).data.toList = 46 :: (s.extract (a + 1) b).data.toList := by
    rw [extract_list, extract_list]
    have hl : a < s.data.toList.length := by rw [Array.length_toList]; show a < s.size; omega
    rw [List.drop_eq_getElem_cons hl, show b - a = (b - (a + 1)) + 1 by omega, List.take_succ_cons]
    congr 1
  apply ba_ext
  show Lib.trimPrefix _ [46] = _
  rw [h3]
  rfl
theorem parse_call (s : ByteArray) (x e : Nat) (h : NumAt s x e) (hs : s.size ≤ 100) (W : World) : Calls Tryz.prog 39 #[.string (s.extract x e), .int .i64 10, .int .i64 64] W fun r w' => r = .returned (.tuple #[.int .u64 (dv s x (e - x)), .nilIface]) ∧ Below W.heap.size W w' := by
  obtain ⟨h1, h2, h3⟩ := parse_at s x e h
  have hz := h.2.2.1
  refine (Tryz.strconv_ParseUint_10_at64_ok (s.extract x e) (by rw [ext_size _ _ _ hz]; omega) _ h1 W).mono ?_
  rintro r w' ⟨rfl, hw⟩
  refine ⟨by rw [Int.toNat_of_nonneg h2], ?_⟩
  rcases hw with rfl | rfl
  · exact Below.refl _ _
  · exact bytes_below (Below.refl _ _) (Nat.le_refl _) _ _
theorem trim_call (s : ByteArray) (a b : Nat) (ha : bt s (a : Int) = 46) (h : a + 1 < b) (hb : b ≤ s.size) (W : World) : Calls Tryz.prog 36 #[.string (s.extract a b), .string ⟨#[46]⟩] W fun r w' => r = .returned (.string (s.extract (a + 1) b)) ∧ w' = W := by
  have h1 := Tryz.strings_TrimPrefix (s.extract a b) ⟨#[46]⟩ W
  rw [trim_dot ha h hb] at h1
  exact h1
theorem Form.pfpre {s : ByteArray} {a b c m : Nat} {n1 n2 n3 : Int} {pre mt : ByteArray} (h : Form s a b c m n1 n2 n3 pre mt) : pre = ⟨#[]⟩ ∨ (0 < pre.size ∧ pre.size ≤ 100 ∧ PF pre true pre.size 0) := by
  obtain ⟨o1, o2, o3, o4, o5, o6⟩ := h.notD
  rcases h.hpre with ⟨_, h1⟩ | ⟨g1, g2, g3, g4⟩
  · exact .inl h1
  · have hz : pre.size = m - (c + 1) := by rw [g4]; exact ext_size _ _ _ o5
    have := g3.lt
    refine .inr ⟨by omega, by omega, ?_⟩
    have h2 := PF_cut (a := c + 1) (b := m) (Nat.le_refl _) g3 (Nat.le_refl _)
    rw [hz, g4]
    rw [Nat.sub_self] at h2
    exact h2
theorem Form.pfmeta {s : ByteArray} {a b c m : Nat} {n1 n2 n3 : Int} {pre mt : ByteArray} (h : Form s a b c m n1 n2 n3 pre mt) : mt = ⟨#[]⟩ ∨ (0 < mt.size ∧ mt.size ≤ 100 ∧ PF mt false mt.size 0) := by
  obtain ⟨o1, o2, o3, o4, o5, o6⟩ := h.notD
  rcases h.hmeta with ⟨_, h1⟩ | ⟨g1, g2, g3, g4⟩
  · exact .inl h1
  · have hz : mt.size = s.size - (m + 1) := by rw [g4]; exact ext_size _ _ _ (Nat.le_refl _)
    have := g3.lt
    refine .inr ⟨by omega, by omega, ?_⟩
    have h2 := PF_cut (a := m + 1) (b := s.size) (Nat.le_refl _) g3 (Nat.le_refl _)
    rw [hz, g4]
    rw [Nat.sub_self] at h2
    exact h2
set_option maxHeartbeats 1600000 in
set_option maxRecDepth 100000 in
theorem coerce_call {s : ByteArray} {a b c m : Nat} {n1 n2 n3 : Int} {pre mt : ByteArray} (h : Form s a b c m n1 n2 n3 pre mt) (w : World) :
    Calls Tryz.prog 28 #[.string s] w fun e w' => ∃ q : Nat, e = .returned (.tuple #[.pointer (some ⟨q, 0, none⟩), .nilIface]) ∧ w.heap.size ≤ q ∧ w'.heap[q]? = some (.cells (verCells n1 n2 n3 pre mt s) 64 (0, 0)) ∧ Below w.heap.size w w' := by
  obtain ⟨K, hK⟩ := loose_ev h
  have HLO := Lib.hid (semver_zzLoose.calls K s _ w (hK K (Nat.le_refl _)))
  have HPP := Lib.hid h.pfpre
  have HPM := Lib.hid h.pfmeta
  obtain ⟨o1, o2, o3, o4, o5, o6⟩ := h.notD
  have HPU0 := Lib.hid (fun W => parse_call s 0 a h.d1 h.size W)
  have HPU1 := Lib.hid (fun W => parse_call s (a + 1) b h.d2 h.size W)
  have HPU2 := Lib.hid (fun W => parse_call s (b + 1) c h.d3 h.size W)
  have HTR1 := Lib.hid (fun W => trim_call s a b h.p1 o1 h.d2.2.2.1 W)
  have HTR2 := Lib.hid (fun W => trim_call s b c h.p2 o2 h.d3.2.2.1 W)
  rw [Nat.sub_zero, ← h.v1] at HPU0
  rw [← h.v2] at HPU1
  rw [← h.v3] at HPU2
  have hne2 : (s.extract a b).toList.isEmpty = false := full_t (by rw [ext_size _ _ _ h.d2.2.2.1]; omega)
  have hne3 : (s.extract b c).toList.isEmpty = false := full_t (by rw [ext_size _ _ _ h.d3.2.2.1]; omega)
  clear hK h o1 o2 o3 o4 o5 o6
  generalize s.extract 0 a = D1 at *
  generalize s.extract a b = D2 at *
  generalize s.extract b c = D3 at *
  generalize s.extract (a + 1) b = E2 at *
  generalize s.extract (b + 1) c = E3 at *
  generalize s.extract c m = Z1 at *
  generalize s.extract m s.size = Z2 at *
  go_enter Tryz.func28, Tryz.ntmps28
  go_wp2_with fail
  refine HLO.out.mono ?_
  rintro e w1 ⟨v, rfl, hr, hb⟩
  obtain ⟨inner, ho⟩ := Kd.R_own hr
  obtain ⟨g, cc, rfl, hBg⟩ : ∃ g cc, v = .slice (some ⟨g, 0, none⟩) 9 cc ∧ w.heap.size ≤ g := by
    rcases ho.2 with ⟨_, h2⟩ | ⟨g, cap, cur, h1, hb, hg, _⟩
    · simp at h2
    · exact ⟨g, _, h1, hb⟩
  have HR := Lib.hid hr
  have HB := Lib.hid hb
  clear hr hb ho HLO
  have hnil : ∀ W : World, (binOp BinOp.eql 28 (Value.slice (some ⟨g, 0, none⟩) 9 cc) (Value.slice none 0 0)).run Tryz.prog W = .ok (.bool false) W := fun W => by kernel_rfl
  have HCELL := Lib.hid (fun (W : World) (hW : Below w1.heap.size w1 W) => show (W.cell? ⟨g, 1, none⟩ = some (.string D1) ∧ W.cell? ⟨g, 2, none⟩ = some (.string D2) ∧ W.cell? ⟨g, 3, none⟩ = some (.string D3)) ∧ W.cell? ⟨g, 5, none⟩ = some (.string pre) ∧ W.cell? ⟨g, 8, none⟩ = some (.string mt) from by
    have hR := Kd.R_below HR.out hW
    exact ⟨⟨(Kd.R_celln (⟨#[]⟩ : ByteArray) hR (1 : Int) (by decide) (by decide)).1, (Kd.R_celln (⟨#[]⟩ : ByteArray) hR (2 : Int) (by decide) (by decide)).1, (Kd.R_celln (⟨#[]⟩ : ByteArray) hR (3 : Int) (by decide) (by decide)).1⟩, (Kd.R_celln (⟨#[]⟩ : ByteArray) hR (5 : Int) (by decide) (by decide)).1, (Kd.R_celln (⟨#[]⟩ : ByteArray) hR (8 : Int) (by decide) (by decide)).1⟩)
  clear HR
  go_upto_region 4 with fail
  have HD := Lib.hid (below_drew1 (Below.refl w1.heap.size w1))
  obtain ⟨_, c5, c8⟩ := HCELL.out w1 (Below.refl _ _)
  have c5d : w1.drew.cell? ⟨g, 5, none⟩ = some (.string pre) := c5
  have c8d : w1.drew.cell? ⟨g, 8, none⟩ = some (.string mt) := c8
  go_still_tail 8, (by kernel_rfl)
  change wpList _ _ _ _ _ w1.drew
  generalize w1.drew = w2 at *
  clear c5 c8 c5d c8d hnil
  go_upto_region 6 with fail
  have HB3 := Lib.hid (HD.out.alloc HD.out.size (.cells #[.int .u64 0, .int .u64 0, .int .u64 0, .string pre, .string mt, .string s] 64))
  have HBK3 := Lib.hid (heap_alloc_new w2 (.cells #[.int .u64 0, .int .u64 0, .int .u64 0, .string pre, .string mt, .string s] 64))
  have hq : w1.heap.size ≤ w2.heap.size := HD.out.size
  have HQ := Lib.hid (show w.heap.size ≤ w2.heap.size from Nat.le_trans HB.out.size hq)
  clear HD
  generalize w2.alloc (.cells #[.int .u64 0, .int .u64 0, .int .u64 0, .string pre, .string mt, .string s] 64) = w3 at *
  generalize w2.heap.size = q at *
  obtain ⟨⟨c1, c2, c3⟩, c5, c8⟩ := HCELL.out w3 HB3.out
  clear c2 c3 c5 c8
  go_wp2_with fail
  refine (HPU0.out _).mono ?_
  rintro e w4 ⟨rfl, hb4⟩
  have HB4 := Lib.hid (HB3.out.trans (hb4.mono HB3.out.size))
  have HBK4 := Lib.hid (blk_below HBK3.out hb4)
  have cz : w4.cell? ⟨q, 0, none⟩ = some (.int .u64 0) := by rw [blk_cell HBK4.out 0]; rfl
  have fz := blk_frozen HBK4.out 0
  clear hb4 HPU0 HB3 HBK3 c1
  go_upto_region 7 with fail
  have HB5 := Lib.hid (HB4.out.setCell (p := ⟨q, 0, none⟩) hq (.int .u64 n1))
  have HBK5 := Lib.hid (show (w4.setCell ⟨q, 0, none⟩ (.int .u64 n1)).heap[q]? = some (.cells #[.int .u64 n1, .int .u64 0, .int .u64 0, .string pre, .string mt, .string s] 64 (0, 0)) from blk_set HBK4.out 0 (.int .u64 n1))
  clear HB4 HBK4 cz fz
  generalize w4.setCell ⟨q, 0, none⟩ (.int .u64 n1) = w5 at *
  obtain ⟨⟨c1, c2, c3⟩, c5, c8⟩ := HCELL.out w5 HB5.out
  clear c1 c3 c5 c8
  go_wp2_with fail
  refine (HTR1.out _).mono ?_
  rintro e _ ⟨rfl, rfl⟩
  clear HTR1
  go_wp2_with fail
  refine (HPU1.out _).mono ?_
  rintro e w6 ⟨rfl, hb4⟩
  have HB6 := Lib.hid (HB5.out.trans (hb4.mono HB5.out.size))
  have HBK6 := Lib.hid (blk_below HBK5.out hb4)
  have cz : w6.cell? ⟨q, 1, none⟩ = some (.int .u64 0) := by rw [blk_cell HBK6.out 1]; rfl
  have fz := blk_frozen HBK6.out 1
  clear hb4 HPU1 HB5 HBK5 c2
  go_upto_region 11 with fail
  have HB7 := Lib.hid (HB6.out.setCell (p := ⟨q, 1, none⟩) hq (.int .u64 n2))
  have HBK7 := Lib.hid (show (w6.setCell ⟨q, 1, none⟩ (.int .u64 n2)).heap[q]? = some (.cells #[.int .u64 n1, .int .u64 n2, .int .u64 0, .string pre, .string mt, .string s] 64 (0, 0)) from blk_set HBK6.out 1 (.int .u64 n2))
  clear HB6 HBK6 cz fz
  generalize w6.setCell ⟨q, 1, none⟩ (.int .u64 n2) = w7 at *
  obtain ⟨⟨c1, c2, c3⟩, c5, c8⟩ := HCELL.out w7 HB7.out
  clear c1 c2 c5 c8
  go_wp2_with fail
  refine (HTR2.out _).mono ?_
  rintro e _ ⟨rfl, rfl⟩
  clear HTR2
  go_wp2_with fail
  refine (HPU2.out _).mono ?_
  rintro e w8 ⟨rfl, hb4⟩
  have HB8 := Lib.hid (HB7.out.trans (hb4.mono HB7.out.size))
  have HBK8 := Lib.hid (blk_below HBK7.out hb4)
  have cz : w8.cell? ⟨q, 2, none⟩ = some (.int .u64 0) := by rw [blk_cell HBK8.out 2]; rfl
  have fz := blk_frozen HBK8.out 2
  clear hb4 HPU2 HB7 HBK7 c3
  go_upto_region 16 with fail
  have HB9 := Lib.hid (HB8.out.setCell (p := ⟨q, 2, none⟩) hq (.int .u64 n3))
  have HBK9 := Lib.hid (show (w8.setCell ⟨q, 2, none⟩ (.int .u64 n3)).heap[q]? = some (.cells #[.int .u64 n1, .int .u64 n2, .int .u64 n3, .string pre, .string mt, .string s] 64 (0, 0)) from blk_set HBK8.out 2 (.int .u64 n3))
  clear HB8 HBK8 cz fz
  generalize w8.setCell ⟨q, 2, none⟩ (.int .u64 n3) = w9 at *
  have x3 : w9.cell? ⟨q, 3, none⟩ = some (.string pre) := by rw [blk_cell HBK9.out 3]; rfl
  have x4 : w9.cell? ⟨q, 4, none⟩ = some (.string mt) := by rw [blk_cell HBK9.out 4]; rfl
  clear HCELL
  rcases HPP.out with pre0 | ⟨pre1, pre2, pre3⟩
  · have pree : pre.toList.isEmpty = true := by rw [pre0, ByteArray.toList_eq]; rfl
    clear pre0
    rcases HPM.out with mt0 | ⟨mt1, mt2, mt3⟩
    · have mte : mt.toList.isEmpty = true := by rw [mt0, ByteArray.toList_eq]; rfl
      clear mt0
      have HF := Lib.hid (HB.out.trans (HB9.out.mono HB.out.size))
      go_wp2
      go_ret2
      exact ⟨q, rfl, HQ.out, HBK9.out, HF.out⟩
    · have mte := full_t mt1
      have Hmt := Lib.hid (fun W => validMeta mt mt2 mt3 W)
      clear mt1 mt2 mt3
      go_wp2_with fail
      refine (Hmt.out _).mono ?_
      rintro e w10 ⟨rfl, hb10⟩
      have HB10 := Lib.hid (HB9.out.trans (hb10.mono HB9.out.size))
      have HBK10 := Lib.hid (blk_below HBK9.out hb10)
      have y3 : w10.cell? ⟨q, 3, none⟩ = some (.string pre) := by rw [blk_cell HBK10.out 3]; rfl
      have y4 : w10.cell? ⟨q, 4, none⟩ = some (.string mt) := by rw [blk_cell HBK10.out 4]; rfl
      clear hb10 Hmt
      have HF := Lib.hid (HB.out.trans (HB10.out.mono HB.out.size))
      go_wp2
      go_ret2
      exact ⟨q, rfl, HQ.out, HBK10.out, HF.out⟩
  · have pree := full_t pre1
    have Hpre := Lib.hid (fun W => validPre pre pre2 pre3 W)
    clear pre1 pre2 pre3
    go_wp2_with fail
    refine (Hpre.out _).mono ?_
    rintro e w10 ⟨rfl, hb10⟩
    have HB10 := Lib.hid (HB9.out.trans (hb10.mono HB9.out.size))
    have HBK10 := Lib.hid (blk_below HBK9.out hb10)
    have y3 : w10.cell? ⟨q, 3, none⟩ = some (.string pre) := by rw [blk_cell HBK10.out 3]; rfl
    have y4 : w10.cell? ⟨q, 4, none⟩ = some (.string mt) := by rw [blk_cell HBK10.out 4]; rfl
    clear hb10 Hpre
    rcases HPM.out with mt0 | ⟨mt1, mt2, mt3⟩
    · have mte : mt.toList.isEmpty = true := by rw [mt0, ByteArray.toList_eq]; rfl
      clear mt0
      have HF := Lib.hid (HB.out.trans (HB10.out.mono HB.out.size))
      go_wp2
      go_ret2
      exact ⟨q, rfl, HQ.out, HBK10.out, HF.out⟩
    · have mte := full_t mt1
      have Hmt := Lib.hid (fun W => validMeta mt mt2 mt3 W)
      clear mt1 mt2 mt3
      go_wp2_with fail
      refine (Hmt.out _).mono ?_
      rintro e w11 ⟨rfl, hb11⟩
      have HB11 := Lib.hid (HB10.out.trans (hb11.mono HB10.out.size))
      have HBK11 := Lib.hid (blk_below HBK10.out hb11)
      have y3 : w11.cell? ⟨q, 3, none⟩ = some (.string pre) := by rw [blk_cell HBK11.out 3]; rfl
      have y4 : w11.cell? ⟨q, 4, none⟩ = some (.string mt) := by rw [blk_cell HBK11.out 4]; rfl
      clear hb11 Hmt
      have HF := Lib.hid (HB.out.trans (HB11.out.mono HB.out.size))
      go_wp2
      go_ret2
      exact ⟨q, rfl, HQ.out, HBK11.out, HF.out⟩
set_option maxHeartbeats 1600000 in
set_option maxRecDepth 100000 in
theorem newVersion_call {s : ByteArray} {a b c m : Nat} {n1 n2 n3 : Int} {pre mt : ByteArray} (h : Form s a b c m n1 n2 n3 pre mt) (w : World) :
    Calls Tryz.prog 20 #[.string s] w fun e w' => ∃ q : Nat, e = .returned (.tuple #[.pointer (some ⟨q, 0, none⟩), .nilIface]) ∧ w.heap.size ≤ q ∧ w'.heap[q]? = some (.cells (verCells n1 n2 n3 pre mt s) 64 (0, 0)) ∧ Below w.heap.size w w' := by
  have HC := Lib.hid (coerce_call h w)
  have hs := h.size
  have d0 : decide (256 < (s.size : Int)) = false := decide_eq_false (by omega)
  have d1 : decide (256 < s.size) = false := decide_eq_false (by omega)
  clear h
  go_enter Tryz.func20, Tryz.ntmps20
  go_wp2_with fail
  refine HC.out.mono ?_
  rintro e w1 ⟨q, rfl, hq, hk, hb⟩
  have HK := Lib.hid hk
  have HB := Lib.hid hb
  have HQ := Lib.hid hq
  clear hk hb hq HC
  go_wp2
  go_ret2
  exact ⟨q, rfl, HQ.out, HK.out, HB.out⟩
end Go.Proofs.YtlhijjfbcgconaaGreatDoor.P


/- FnSemver holds. -/
set_option linter.unusedVariables false
set_option linter.unusedSimpArgs false
namespace Go.Proofs.YtlhijjfbcgconaaGreatDoor.P
open Go.RowKit Go.Proofs.YtlhijjfbcgconaaGreatDoorW.PrintWords Go.Proofs.YtlhijjfbcgconaaGreatDoorW.PrintLast Go.Proofs.YtlhijjfbcgconaaGreatDoorW.PrintMore

set_option maxHeartbeats 1600000 in
set_option maxRecDepth 100000 in
theorem verMajor_call (n1 n2 n3 : Int) (pre mt og : ByteArray) (w : World) : Calls Tryz.prog 73 #[.agg #[.int .u64 n1, .int .u64 n2, .int .u64 n3, .string pre, .string mt, .string og]] w fun e w' => e = .returned (.int .u64 n1) ∧ Below w.heap.size w w' := by
  have HB := Lib.hid (fun o => (Below.refl w.heap.size w).alloc (Nat.le_refl _) o)
  go_enter Tryz.func73, Tryz.ntmps73
  go_wp2
  go_ret
  exact ⟨rfl, HB.out _⟩
set_option maxHeartbeats 1600000 in
set_option maxRecDepth 100000 in
theorem verMinor_call (n1 n2 n3 : Int) (pre mt og : ByteArray) (w : World) : Calls Tryz.prog 74 #[.agg #[.int .u64 n1, .int .u64 n2, .int .u64 n3, .string pre, .string mt, .string og]] w fun e w' => e = .returned (.int .u64 n2) ∧ Below w.heap.size w w' := by
  have HB := Lib.hid (fun o => (Below.refl w.heap.size w).alloc (Nat.le_refl _) o)
  go_enter Tryz.func74, Tryz.ntmps74
  go_wp2
  go_ret
  exact ⟨rfl, HB.out _⟩
set_option maxHeartbeats 1600000 in
set_option maxRecDepth 100000 in
theorem verPatch_call (n1 n2 n3 : Int) (pre mt og : ByteArray) (w : World) : Calls Tryz.prog 75 #[.agg #[.int .u64 n1, .int .u64 n2, .int .u64 n3, .string pre, .string mt, .string og]] w fun e w' => e = .returned (.int .u64 n3) ∧ Below w.heap.size w w' := by
  have HB := Lib.hid (fun o => (Below.refl w.heap.size w).alloc (Nat.le_refl _) o)
  go_enter Tryz.func75, Tryz.ntmps75
  go_wp2
  go_ret
  exact ⟨rfl, HB.out _⟩
set_option maxHeartbeats 1600000 in
set_option maxRecDepth 100000 in
theorem verPrerelease_call (n1 n2 n3 : Int) (pre mt og : ByteArray) (w : World) : Calls Tryz.prog 71 #[.agg #[.int .u64 n1, .int .u64 n2, .int .u64 n3, .string pre, .string mt, .string og]] w fun e w' => e = .returned (.string pre) ∧ Below w.heap.size w w' := by
  have HB := Lib.hid (fun o => (Below.refl w.heap.size w).alloc (Nat.le_refl _) o)
  go_enter Tryz.func71, Tryz.ntmps71
  go_wp2
  go_ret
  exact ⟨rfl, HB.out _⟩
end Go.Proofs.YtlhijjfbcgconaaGreatDoor.P

