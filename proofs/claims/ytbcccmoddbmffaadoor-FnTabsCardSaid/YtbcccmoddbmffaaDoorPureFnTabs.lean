/- Blanks stand for tabs up to the next column that is a multiple of a number; columns begin anew behind a line feed; refused for numbers below 1: as the reference writes them: for every text and number. Nothing is assumed but what every Go string and int fulfils, and the two tables of unicode/utf8. -/
import Derived.Test.YtbcccmoddbmffaaDoorPx39
import Derived.Test.YtbcccmoddbmffaaDoorP9
namespace Go.Proofs.YtbcccmoddbmffaaDoor.Pure
open Go.RowKit Go.Proofs.YtbcccmoddbmffaaDoor.P Go.Proofs.YtbcccmoddbmffaaDoorW.PrintWords Go.Proofs.YtbcccmoddbmffaaDoorW.PrintLast

/-- A text without control characters but tabs and line feeds. -/
def shown (s : ByteArray) : Prop := ∀ i : Nat, i < s.size → bt s i = 9 ∨ bt s i = 10 ∨ (32 ≤ bt s i ∧ bt s i ≠ 127)
theorem shown_from (s : ByteArray) (hn : s.size ≤ 500) : ∀ (d i : Nat), i + d = s.size → ∃ b, Ev (fun k => spec_Printed.l0 k s (s.size : Int) (i : Int)) b ∧ (b = true → ∀ j : Nat, i ≤ j → j < s.size → bt s j = 9 ∨ bt s j = 10 ∨ (32 ≤ bt s j ∧ bt s j ≠ 127))
  | 0, i, hi => ⟨true, Ev.step (fun k => by rw [spec_Printed.l0]) (Ev.neg (by omega) (Ev.ok _)), fun _ j h1 h2 => by omega⟩
  | d + 1, i, hi => by
    obtain ⟨b, e, hb⟩ := shown_from s hn d (i + 1) (by omega)
    have hw : wrap64 ((i : Int) + 1) = ((i + 1 : Nat) : Int) := by rw [w64_in (by omega) (by omega)]; rfl
    by_cases c0 : bt s i < 32
    · by_cases c9 : bt s i = 9
      · refine ⟨b, Ev.step (fun k => by rw [spec_Printed.l0]) (Ev.pos (by omega) (Ev.pos (by omega) (Ev.pos (by omega) (Ev.pos c0 (Ev.pos c9 (Ev.neg (by omega) (by rw [hw]; exact e))))))), fun h j h1 h2 => ?_⟩
        by_cases hj : j = i
        · subst hj; exact .inl c9
        · exact hb h j (by omega) h2
      · by_cases c10 : bt s i = 10
        · refine ⟨b, Ev.step (fun k => by rw [spec_Printed.l0]) (Ev.pos (by omega) (Ev.pos (by omega) (Ev.pos (by omega) (Ev.pos c0 (Ev.neg c9 (Ev.pos c10 (Ev.neg (by omega) (by rw [hw]; exact e)))))))), fun h j h1 h2 => ?_⟩
          by_cases hj : j = i
          · subst hj; exact .inr (.inl c10)
          · exact hb h j (by omega) h2
        · exact ⟨false, Ev.step (fun k => by rw [spec_Printed.l0]) (Ev.pos (by omega) (Ev.pos (by omega) (Ev.pos (by omega) (Ev.pos c0 (Ev.neg c9 (Ev.neg c10 (Ev.ok _))))))), fun h => by cases h⟩
    · by_cases c1 : bt s i = 127
      · exact ⟨false, Ev.step (fun k => by rw [spec_Printed.l0]) (Ev.pos (by omega) (Ev.pos (by omega) (Ev.pos (by omega) (Ev.neg c0 (Ev.pos c1 (Ev.ok _)))))), fun h => by cases h⟩
      · refine ⟨b, Ev.step (fun k => by rw [spec_Printed.l0]) (Ev.pos (by omega) (Ev.pos (by omega) (Ev.pos (by omega) (Ev.neg c0 (Ev.neg c1 (by rw [hw]; exact e)))))), fun h j h1 h2 => ?_⟩
        by_cases hj : j = i
        · subst hj; exact .inr (.inr ⟨by omega, c1⟩)
        · exact hb h j (by omega) h2
theorem rep_from (x : ByteArray) (hx : x.size = 1) (n : Nat) (hn : n ≤ 1000) : ∀ (d i : Nat) (out : ByteArray), i + d = n → out.size = i → Ev (fun k => spec_Repeat.l0 k x out (n : Int) (i : Int)) ⟨(out.data.toList ++ (List.replicate d x.data.toList).flatten).toArray⟩
  | 0, i, out, hi, ho => by
    refine Ev.step (fun k => by rw [spec_Repeat.l0]) (Ev.neg (by omega) (Ev.eq ?_ (Ev.ok _)))
    apply ba_ext
    simp
  | d + 1, i, out, hi, ho => by
    have hw : wrap64 ((i : Int) + 1) = ((i + 1 : Nat) : Int) := by rw [w64_in (by omega) (by omega)]; rfl
    refine Ev.step (fun k => by rw [spec_Repeat.l0]) (Ev.pos (by omega) (Ev.pos (by omega) ?_))
    rw [hw]
    refine Ev.eq ?_ (rep_from x hx n hn d (i + 1) (out ++ x) (by omega) (by rw [ByteArray.size_append]; omega))
    rw [append_list, List.replicate_succ, List.flatten_cons, List.append_assoc]
theorem blanks (n : Nat) (hn : n ≤ 1000) : Ev (fun k => spec_Repeat.f k (n : Int) (⟨#[32]⟩ : ByteArray)) ⟨(List.replicate n 32).toArray⟩ := by
  unfold spec_Repeat.f
  refine Ev.eq ?_ (rep_from ⟨#[32]⟩ rfl n hn n 0 ⟨#[]⟩ (by omega) rfl)
  congr 2
  show [] ++ (List.replicate n [32]).flatten = _
  rw [List.nil_append]
  induction n with
  | zero => rfl
  | succ n ih => rw [List.replicate_succ, List.flatten_cons, ih (by omega), List.replicate_succ]; rfl
theorem wd_one (c : Int) (h0 : 32 ≤ c) (h1 : c < 128) : wd c = 1 := by
  unfold wd xstrings_RuneWidth.f
  rw [if_neg (by omega), decide_eq_false (by omega), xstrings_RuneWidth.j0, if_neg Bool.false_ne_true, if_pos h0, decide_eq_true (by omega), xstrings_RuneWidth.j1, if_pos rfl]
  rfl
theorem one_byte (s : ByteArray) (i : Nat) (h : i < s.size) : (s.data.toList.drop i).take 1 = [s[i]'h] := by
  rw [List.drop_eq_getElem_cons (by rw [size_list]; exact h)]
  rfl
theorem tabs_from (s : ByteArray) (n : Int) (hn : 1 ≤ n) (hn4 : n ≤ 40) (ha : ascii s) (hp : shown s) (hs : s.size ≤ 500) : ∀ (d i : Nat) (out : ByteArray) (col : Int), i + d = s.size → 0 ≤ col → col ≤ 41 * (i : Int) → out.size ≤ 41 * i →
    Ev (fun k => spec_ExpandTabs.l0 k s n out col (s.size : Int) (i : Int)) ⟨(tabsGo s n d i col out.data.toList).toArray⟩
  | 0, i, out, col, hi, h0, h1, ho => by
    refine Ev.step (fun k => by rw [spec_ExpandTabs.l0]) ?_
    refine Ev.neg (by omega) (Ev.eq ?_ (Ev.ok _))
    apply ba_ext
    simp [tabsGo]
  | d + 1, i, out, col, hi, h0, h1, ho => by
    have hlt : i < s.size := by omega
    have hb := bt_nat s i hlt
    have hac := ha i hlt
    have hdec := decode_ascii s i hlt (by omega)
    have hw : wrap64 ((i : Int) + 1) = ((i + 1 : Nat) : Int) := by rw [w64_in (by omega) (by omega)]; rfl
    have ht : Int.tmod col n = col % n := Int.tmod_eq_emod_of_nonneg h0
    have he0 := Int.emod_nonneg col (show n ≠ 0 by omega)
    have he1 := Int.emod_lt_of_pos col (show 0 < n by omega)
    refine Ev.step (fun k => by rw [spec_ExpandTabs.l0]) (Ev.pos (by omega) (Ev.pos (by omega) (Ev.pos (by omega) ?_)))
    rw [ht, hw]
    by_cases c9 : bt s i = 9
    · have hc : (Utf8.decode s i).1 = 9 := by rw [hdec]; show (s[i]'hlt).toNat = 9; omega
      obtain ⟨E, hE⟩ : ∃ E : Nat, n - col % n = (E : Int) := ⟨(n - col % n).toNat, by omega⟩
      have hEl : E ≤ 40 := by omega
      rw [tabsGo_tab s n d i col _ hlt hc, hdec, hE, Int.toNat_natCast]
      rw [w64_in (i := (E : Int)) (by omega) (by omega), w64_in (i := col + (E : Int)) (by omega) (by omega)]
      refine Ev.pos c9 (Ev.neg (by omega) (Ev.bind (blanks E (by omega)) ?_))
      have hz : ((⟨(List.replicate E 32).toArray⟩ : ByteArray)).size = E := by simp [ByteArray.size]
      refine Ev.pos (by omega) ?_
      have := tabs_from s n hn hn4 ha hp hs d (i + 1) (out ++ ⟨(List.replicate E 32).toArray⟩) (col + E) (by omega) (by omega) (by omega) (by rw [ByteArray.size_append]; omega)
      rw [append_list] at this
      exact this
    · have hc : ¬ (Utf8.decode s i).1 = 9 := by rw [hdec]; show ¬ (s[i]'hlt).toNat = 9; omega
      rw [tabsGo_other s n d i col _ hlt hc, hdec]
      refine Ev.neg c9 ?_
      by_cases c10 : bt s i = 10
      · have h10 : (s[i]'hlt).toNat = 10 := by omega
        refine Ev.pos c10 (Ev.pos (by omega) ?_)
        have := tabs_from s n hn hn4 ha hp hs d (i + 1) (out ++ ⟨#[10]⟩) 0 (by omega) (by omega) (by omega) (by rw [ByteArray.size_append]; show out.size + 1 ≤ _; omega)
        rw [append_list] at this
        rw [if_pos h10, one_byte s i hlt, show s[i]'hlt = 10 from UInt8.toNat_inj.1 h10]
        exact this
      · have h10 : ¬ (s[i]'hlt).toNat = 10 := by omega
        have hsh := hp i hlt
        have hw1 := wd_one (((s[i]'hlt).toNat : Nat) : Int) (by omega) (by omega)
        have hxz : (s.extract i (i + 1)).size = 1 := by rw [ByteArray.size_extract]; omega
        refine Ev.neg c10 (Ev.pos (by omega) (Ev.pos (by omega) (Ev.pos ?_ ?_)))
        · rw [Int.toNat_natCast, Int.toNat_natCast, hxz]; omega
        rw [Int.toNat_natCast, Int.toNat_natCast, if_neg h10]
        rw [w64_in (i := col + 1) (by omega) (by omega)]
        have := tabs_from s n hn hn4 ha hp hs d (i + 1) (out ++ s.extract i (i + 1)) (col + 1) (by omega) (by omega) (by omega) (by rw [ByteArray.size_append]; omega)
        rw [append_list, extract_list, Nat.add_sub_cancel_left] at this
        show Ev _ (⟨(tabsGo s n d (i + 1) (col + wd (((s[i]'hlt).toNat : Nat) : Int)) (out.data.toList ++ (s.data.toList.drop i).take 1)).toArray⟩ : ByteArray)
        rw [hw1]
        exact this

theorem FnTabs : laws_FnTabs.Pure := by
  intro s n hs hn
  refine Ev.rounds (g := fun k => laws_FnTabs.f k s n) ?_
  unfold laws_FnTabs.f
  have far : Ev (fun k => laws_FnTabs.j0 k s n true) true := Ev.step (fun k => by rw [laws_FnTabs.j0]) (Ev.pos rfl (Ev.ok _))
  by_cases h1 : (s.size : Int) > 2147483647
  · exact Ev.pos h1 (Ev.ok _)
  refine Ev.neg h1 ?_
  obtain ⟨q, e, hq⟩ := plain9_tells [s] (by simp)
  refine Ev.bind e ?_
  cases q with
  | false => exact Ev.neg Bool.false_ne_true far
  | true =>
    refine Ev.pos rfl ?_
    obtain ⟨hs5, ha⟩ := hq rfl s (by simp)
    by_cases h3 : n > 40
    · exact Ev.pos h3 far
    refine Ev.neg h3 ?_
    obtain ⟨b, eb, hb⟩ := shown_from s hs5 s.size 0 (by omega)
    refine Ev.bind eb ?_
    cases b with
    | false => exact far
    | true =>
      show Ev (fun k => laws_FnTabs.j0 k s n false) true
      refine Ev.step (fun k => by rw [laws_FnTabs.j0]) (Ev.neg Bool.false_ne_true ?_)
      by_cases h4 : n < 1
      · have i1 : impl_ExpandTabs.f s n = some (ByteArray.empty, false) := by unfold impl_ExpandTabs.f; rw [if_pos (by omega)]
        have i2 : ∃ r, impl_ExpandTabs.f (⟨#[97]⟩ : ByteArray) 1 = some (r, true) := by
          unfold impl_ExpandTabs.f xstrings_ExpandTabs.f
          rw [if_neg (by decide), if_pos (by decide)]
          exact ⟨_, rfl⟩
        obtain ⟨r, i2⟩ := i2
        rw [i1, i2]
        exact Ev.bind (Ev.ok _) (Ev.pos h4 (Ev.bind (Ev.ok _) (Ev.pos rfl (Ev.ok _))))
      · have sm : small2 s n = true ∧ 0 < n := ⟨by simp only [small2, Bool.and_eq_true, decide_eq_true_eq]; omega, by omega⟩
        have i1 : impl_ExpandTabs.f s n = some (⟨(tabsGo s n s.size 0 0 []).toArray⟩, true) := by
          unfold impl_ExpandTabs.f xstrings_ExpandTabs.f
          rw [if_neg (by omega), if_pos sm]
          rfl
        rw [i1]
        have hsp : Ev (fun k => spec_ExpandTabs.f k s n) ⟨(tabsGo s n s.size 0 0 []).toArray⟩ := tabs_from s n (by omega) (by omega) ha (fun j hj => hb rfl j (Nat.zero_le _) hj) hs5 s.size 0 ⟨#[]⟩ 0 (by omega) (by omega) (by omega) (by decide)
        refine Ev.bind (Ev.ok _) (Ev.neg h4 (Ev.pos rfl (Ev.bind hsp (Ev.eq ?_ (Ev.ok _)))))
        exact beq_iff_eq.2 rfl
end Go.Proofs.YtbcccmoddbmffaaDoor.Pure
