/- The words of a text: letters, with apostrophes and hyphens between letters: as the reference tells them, and how many they are: for every text. Nothing is assumed but what every Go string fulfils, and the tables of unicode and unicode/utf8. -/
import Derived.Test.YtbcccmoddbmffaaDoorPx7
import Derived.Test.YtbcccmoddbmffaaDoorP9
namespace Go.Proofs.YtbcccmoddbmffaaDoor.Pure
open Go.RowKit Go.Proofs.YtbcccmoddbmffaaDoor.P Go.Proofs.YtbcccmoddbmffaaDoorW.PrintWords Go.Proofs.YtbcccmoddbmffaaDoorW.PrintLast

theorem ev_one {α : Type} {g : Nat → Option α} {a b : α} (h : Ev g a) (k : Ev g b) : a = b := by
  obtain ⟨n, hn⟩ := h
  obtain ⟨m, hm⟩ := k
  exact Option.some.inj ((hn (n + m) (by omega)).symm.trans (hm (n + m) (by omega)))
def letB (c : Int) : Bool := decide ((97 ≤ c ∧ c ≤ 122) ∨ (65 ≤ c ∧ c ≤ 90))
def tieB (c : Int) : Bool := decide (c = 39 ∨ c = 45)
theorem isLetter_f (c : Int) : spec_isLetter.f c = some (letB c) := by
  unfold spec_isLetter.f letB
  by_cases h1 : 97 ≤ c
  · by_cases h2 : c ≤ 122
    · rw [if_pos h1, if_pos h2, decide_eq_true (by omega)]
    · rw [if_pos h1, if_neg h2, if_pos (by omega)]
      congr 1
      exact decide_eq_decide.2 (by omega)
  · by_cases h3 : 65 ≤ c
    · rw [if_neg h1, if_pos h3]
      congr 1
      exact decide_eq_decide.2 (by omega)
    · rw [if_neg h1, if_neg h3, decide_eq_false (by omega)]
theorem isAlpha (c : Int) (h0 : 0 ≤ c) (h1 : c < 128) : Ev (fun k => xstrings_isAlphabet.f k c) (letB c) := by
  have hl : Lib.isLetterL c = letB c := by
    unfold Lib.isLetterL Lib.isUpperL Lib.isLowerL letB
    rw [← Bool.decide_or, ← Bool.decide_or]
    exact decide_eq_decide.2 (by omega)
  unfold xstrings_isAlphabet.f unicode_IsLetter.f
  rw [if_pos ⟨h0, by omega⟩, hl]
  refine Ev.bind (Ev.ok _) ?_
  cases h : letB c with
  | true => exact Ev.pos rfl (Ev.pos (by omega) (Ev.ok _))
  | false => exact Ev.neg Bool.false_ne_true (Ev.ok _)
theorem decode_f (s : ByteArray) (h : ascii s) (i : Nat) (hi : i < s.size) : utf8_DecodeRuneInString.f (s.extract i s.size) = some (bt s i, 1) := by
  have hb := bt_nat s i hi
  have ha := h i hi
  unfold utf8_DecodeRuneInString.f
  rw [decodeGo_at s i hi, decode_ascii s i hi (by omega), hb]
  rfl
theorem tail_one (s : ByteArray) (i : Nat) (hi : i < s.size) : (s.extract i s.size).extract (1 : Int).toNat (s.extract i s.size).size = s.extract (i + 1) s.size := extract_tail s i 1 (by omega)
theorem grow_one (s : ByteArray) (p i : Nat) (hp : p ≤ i) (_ : i < s.size) : s.extract p i ++ s.extract i (i + 1) = s.extract p (i + 1) := by
  apply ba_ext
  rw [append_list, extract_list, extract_list, extract_list, show i + 1 - p = (i - p) + 1 by omega, Nat.add_sub_cancel_left, List.take_add, List.drop_drop, show p + (i - p) = i by omega]
theorem ext_nil (s : ByteArray) (p i : Nat) (_ : i ≤ s.size) : (s.extract p i).toList = ([] : List UInt8) ↔ ¬ p < i := by
  rw [ByteArray.toList_eq]
  constructor
  · intro h hp
    have := congrArg List.length h
    rw [size_list, ByteArray.size_extract] at this
    simp at this
    omega
  · intro h
    apply List.eq_nil_of_length_eq_zero
    rw [size_list, ByteArray.size_extract]
    omega
/-- Apostrophes and hyphens stand between letters alone: all that is asked here is what stands ahead of them. -/
def tied (s : ByteArray) : Prop := ∀ i : Nat, i < s.size → tieB (bt s i) = true → 0 < i ∧ letB (bt s ((i - 1 : Nat) : Int)) = true
theorem tied_from (s : ByteArray) (hn : s.size ≤ 500) : ∀ (d i : Nat), i + d = s.size → ∃ b, Ev (fun k => spec_Tied.l0 k s (s.size : Int) (i : Int)) b ∧ (b = true → ∀ j : Nat, i ≤ j → j < s.size → tieB (bt s j) = true → 0 < j ∧ letB (bt s ((j - 1 : Nat) : Int)) = true)
  | 0, i, hi => ⟨true, by
      refine Ev.step (fun k => by rw [spec_Tied.l0]) ?_
      exact Ev.neg (by omega) (Ev.ok _), fun _ j h1 h2 => by omega⟩
  | d + 1, i, hi => by
    obtain ⟨b, e, hb⟩ := tied_from s hn d (i + 1) (by omega)
    have hw : wrap64 ((i : Int) + 1) = ((i + 1 : Nat) : Int) := by rw [w64_in (by omega) (by omega)]; rfl
    have hcol : ∀ q : Bool, (tieB (bt s i) = true → q = true → 0 < i ∧ letB (bt s ((i - 1 : Nat) : Int)) = true) → (q = true → b = true) → (q = true → ∀ j : Nat, i ≤ j → j < s.size → tieB (bt s j) = true → 0 < j ∧ letB (bt s ((j - 1 : Nat) : Int)) = true) := by
      intro q h1 h2 hq j hj hj2 ht
      by_cases hji : j = i
      · subst hji; exact h1 ht hq
      · exact hb (h2 hq) j (by omega) hj2 ht
    -- a tie at i
    have tie : ∀ (rest : Nat → Option Bool), (∀ k, rest k = (if (i : Int) = 0 then some false else (if (wrap64 ((i : Int) + 1)) = (s.size : Int) then (some false) else (if 0 ≤ (wrap64 ((i : Int) - 1)) then (if (wrap64 ((i : Int) - 1)) < (s.size : Int) then ((spec_isLetter.f (bt s (wrap64 ((i : Int) - 1)))).bind fun t220 => (if t220 = true then (if 0 ≤ (wrap64 ((i : Int) + 1)) then (if (wrap64 ((i : Int) + 1)) < (s.size : Int) then ((spec_isLetter.f (bt s (wrap64 ((i : Int) + 1)))).bind fun t221 => (if t221 = true then (spec_Tied.l0 k s (s.size : Int) (wrap64 ((i : Int) + 1))) else (some false))) else (none)) else (none)) else (some false))) else (none)) else (none))))) →
        ∃ q, Ev rest q ∧ (q = true → b = true) ∧ (q = true → 0 < i ∧ letB (bt s ((i - 1 : Nat) : Int)) = true) := by
      intro rest hr
      have hr' : rest = _ := funext hr
      rw [hr']
      clear hr hr'
      by_cases hi0 : i = 0
      · exact ⟨false, Ev.pos (by omega) (Ev.ok _), (fun h => by cases h), (fun h => by cases h)⟩
      · have hm : wrap64 ((i : Int) - 1) = ((i - 1 : Nat) : Int) := by rw [w64_in (by omega) (by omega)]; omega
        simp only [hw, hm, isLetter_f, Option.bind_some]
        by_cases hlast : i + 1 = s.size
        · exact ⟨false, Ev.neg (by omega) (Ev.pos (by omega) (Ev.ok _)), (fun h => by cases h), (fun h => by cases h)⟩
        · cases h1 : letB (bt s ((i - 1 : Nat) : Int)) with
          | false => exact ⟨false, Ev.neg (by omega) (Ev.neg (by omega) (Ev.pos (by omega) (Ev.pos (by omega) (Ev.neg Bool.false_ne_true (Ev.ok _))))), (fun h => by cases h), (fun h => by cases h)⟩
          | true =>
            cases h2 : letB (bt s ((i + 1 : Nat) : Int)) with
            | false => exact ⟨false, Ev.neg (by omega) (Ev.neg (by omega) (Ev.pos (by omega) (Ev.pos (by omega) (Ev.pos rfl (Ev.pos (by omega) (Ev.pos (by omega) (Ev.neg Bool.false_ne_true (Ev.ok _)))))))), (fun h => by cases h), (fun h => by cases h)⟩
            | true => exact ⟨b, Ev.neg (by omega) (Ev.neg (by omega) (Ev.pos (by omega) (Ev.pos (by omega) (Ev.pos rfl (Ev.pos (by omega) (Ev.pos (by omega) (Ev.pos rfl e))))))), id, fun _ => ⟨by omega, rfl⟩⟩
    by_cases c1 : bt s i = 39
    · obtain ⟨q, eq, q1, q2⟩ := tie _ (fun k => rfl)
      exact ⟨q, Ev.step (fun k => by rw [spec_Tied.l0]) (Ev.pos (by omega) (Ev.pos (by omega) (Ev.pos (by omega) (Ev.pos c1 eq)))), hcol q (fun _ h => q2 h) q1⟩
    · by_cases c2 : bt s i = 45
      · obtain ⟨q, eq, q1, q2⟩ := tie _ (fun k => rfl)
        exact ⟨q, Ev.step (fun k => by rw [spec_Tied.l0]) (Ev.pos (by omega) (Ev.pos (by omega) (Ev.pos (by omega) (Ev.neg c1 (Ev.pos c2 eq))))), hcol q (fun _ h => q2 h) q1⟩
      · refine ⟨b, Ev.step (fun k => by rw [spec_Tied.l0]) (Ev.pos (by omega) (Ev.pos (by omega) (Ev.pos (by omega) (Ev.neg c1 (Ev.neg c2 ?_))))), hcol b (fun ht => ?_) id⟩
        · rw [hw]; exact e
        · unfold tieB at ht
          have := of_decide_eq_true ht
          omega
/-- The words from place i on: both tell the same list, and its length. -/
theorem words_from (s : ByteArray) (hn : s.size ≤ 500) (ha : ascii s) (ht : tied s) : ∀ (d i p : Nat) (ws : List ByteArray) (x3 : ByteArray) (x7 : Int), i + d = s.size → p ≤ i → ws.length ≤ i → 0 ≤ x7 → x7 ≤ 1000 + i → (p < i → x3 = s.extract p s.size ∧ x7 = ((i - p : Nat) : Int)) →
    (0 < i → letB (bt s ((i - 1 : Nat) : Int)) = true → p < i) →
    ∃ R : List ByteArray, Ev (fun k => xstrings_WordSplit.l0 k (s.extract i s.size) x3 ws x7 (decide (p < i))) R ∧ Ev (fun k => spec_LetterWords.l0 k s ws (s.extract p i) (s.size : Int) (i : Int)) R ∧
      Ev (fun k => xstrings_WordCount.l0 k (s.extract i s.size) ((ws.length : Int) + (if p < i then 1 else 0)) (decide (p < i))) (R.length : Int) ∧ R.length ≤ s.size + 1
  | 0, i, p, ws, x3, x7, hi, hp, hws, h70, h71, hin, hle => by
    have hz : (s.extract i s.size).size = 0 := by rw [ByteArray.size_extract]; omega
    have hi2 : i = s.size := by omega
    by_cases c : p < i
    · obtain ⟨rfl, rfl⟩ := hin c
      refine ⟨ws ++ [s.extract p i], ?_, ?_, ?_, by simp; omega⟩
      · rw [decide_eq_true c]
        refine Ev.step (fun k => by rw [xstrings_WordSplit.l0]) ?_
        refine Ev.neg (by rw [hz]; omega) (Ev.pos rfl (Ev.pos (by omega) (Ev.pos (by rw [ByteArray.size_extract]; omega) (Ev.pos (by omega) (Ev.eq ?_ (Ev.ok _))))))
        congr 2
        rw [Int.toNat_natCast, ByteArray.extract_extract]
        congr 1
        omega
      · refine Ev.step (fun k => by rw [spec_LetterWords.l0]) ?_
        exact Ev.neg (by omega) (Ev.neg (fun h => (ext_nil s p i (by omega)).1 h c) (Ev.pos (by omega) (Ev.ok _)))
      · rw [decide_eq_true c, if_pos c]
        refine Ev.step (fun k => by rw [xstrings_WordCount.l0]) ?_
        exact Ev.neg (by rw [hz]; omega) (Ev.eq (by simp) (Ev.ok _))
    · refine ⟨ws, ?_, ?_, ?_, by omega⟩
      · rw [decide_eq_false c]
        refine Ev.step (fun k => by rw [xstrings_WordSplit.l0]) ?_
        exact Ev.neg (by rw [hz]; omega) (Ev.neg Bool.false_ne_true (Ev.ok _))
      · refine Ev.step (fun k => by rw [spec_LetterWords.l0]) ?_
        exact Ev.neg (by omega) (Ev.pos ((ext_nil s p i (by omega)).2 c) (Ev.ok _))
      · rw [decide_eq_false c, if_neg c]
        refine Ev.step (fun k => by rw [xstrings_WordCount.l0]) ?_
        exact Ev.neg (by rw [hz]; omega) (Ev.eq (by simp) (Ev.ok _))
  | d + 1, i, p, ws, x3, x7, hi, hp, hws, h70, h71, hin, hle => by
    have hlt : i < s.size := by omega
    have hac := ha i hlt
    have hb0 := (bt_range s i).1
    have hz : (s.extract i s.size).size = s.size - i := by rw [ByteArray.size_extract]; omega
    have hw : wrap64 ((i : Int) + 1) = ((i + 1 : Nat) : Int) := by rw [w64_in (by omega) (by omega)]; rfl
    have hw7 : wrap64 (x7 + 1) = x7 + 1 := w64_in (by omega) (by omega)
    have hdec := decode_f s ha i hlt
    have hal := isAlpha (bt s i) hb0 hac
    have ht1 := tail_one s i hlt
    have hprev : ((i + 1 - 1 : Nat) : Int) = (i : Int) := by omega
    -- how each goes on
    have goSplit : ∀ (y3 : ByteArray) (l : List ByteArray) (y7 : Int) (f : Bool) (R : List ByteArray), Ev (fun k => xstrings_WordSplit.l0 k (s.extract (i + 1) s.size) y3 l y7 f) R → Ev (fun k => if 0 ≤ (1 : Int) then (if (1 : Int) ≤ ((s.extract i s.size).size : Int) then (xstrings_WordSplit.l0 k ((s.extract i s.size).extract (1 : Int).toNat (s.extract i s.size).size) y3 l y7 f) else (none)) else (none)) R :=
      fun y3 l y7 f R e => Ev.pos (by omega) (Ev.pos (by rw [hz]; omega) (by rw [ht1]; exact e))
    have goCount : ∀ (n : Int) (f : Bool) (r : Int), Ev (fun k => xstrings_WordCount.l0 k (s.extract (i + 1) s.size) n f) r → Ev (fun k => if 0 ≤ (1 : Int) then (if (1 : Int) ≤ ((s.extract i s.size).size : Int) then (xstrings_WordCount.l0 k ((s.extract i s.size).extract (1 : Int).toNat (s.extract i s.size).size) n f) else (none)) else (none)) r :=
      fun n f r e => Ev.pos (by omega) (Ev.pos (by rw [hz]; omega) (by rw [ht1]; exact e))
    have inWord : ∀ (R : List ByteArray), Ev (fun k => spec_LetterWords.l0 k s ws (s.extract p (i + 1)) (s.size : Int) ((i + 1 : Nat) : Int)) R → Ev (fun k => spec_LetterWords.j1 k s ws (s.extract p i) (i : Int) (s.size : Int) (i : Int) true) R := by
      intro R e
      refine Ev.step (fun k => by rw [spec_LetterWords.j1]) (Ev.pos rfl ?_)
      rw [hw, Int.toNat_natCast, Int.toNat_natCast, grow_one s p i hp hlt]
      exact Ev.pos (by omega) (Ev.pos (by omega) (Ev.pos (by omega) (Ev.pos (by rw [ByteArray.size_extract, ByteArray.size_extract]; omega) e)))
    cases hL : letB (bt s i) with
    | true =>
      rw [hL] at hal
      have hpi : p < i + 1 := by omega
      by_cases c : p < i
      · obtain ⟨h3, h7⟩ := hin c
        obtain ⟨R, e1, e2, e3, e4⟩ := words_from s hn ha ht d (i + 1) p ws x3 (x7 + 1) (by omega) (by omega) (by omega) (by omega) (by omega) (fun _ => ⟨h3, by omega⟩) (fun _ _ => hpi)
        rw [decide_eq_true hpi] at e1 e3
        rw [if_pos hpi] at e3
        refine ⟨R, ?_, ?_, ?_, e4⟩
        · rw [decide_eq_true c]
          refine Ev.step (fun k => by rw [xstrings_WordSplit.l0]) (Ev.pos (by rw [hz]; omega) ?_)
          rw [hdec]
          refine Ev.bind (Ev.ok _) (Ev.bind hal (Ev.pos rfl (Ev.pos rfl ?_)))
          rw [hw7]
          exact goSplit _ _ _ _ _ e1
        · refine Ev.step (fun k => by rw [spec_LetterWords.l0]) (Ev.pos (by omega) (Ev.pos (by omega) (Ev.pos (by omega) ?_)))
          rw [isLetter_f, hL]
          exact Ev.bind (Ev.ok _) (Ev.pos rfl (inWord R e2))
        · rw [decide_eq_true c, if_pos c]
          refine Ev.step (fun k => by rw [xstrings_WordCount.l0]) (Ev.pos (by rw [hz]; omega) ?_)
          rw [hdec]
          exact Ev.bind (Ev.ok _) (Ev.bind hal (Ev.pos rfl (Ev.pos rfl (goCount _ _ _ e3))))
      · have hpe : p = i := by omega
        obtain ⟨R, e1, e2, e3, e4⟩ := words_from s hn ha ht d (i + 1) p ws (s.extract i s.size) 1 (by omega) (by omega) (by omega) (by omega) (by omega) (fun _ => ⟨by rw [hpe], by omega⟩) (fun _ _ => hpi)
        rw [decide_eq_true hpi] at e1 e3
        rw [if_pos hpi] at e3
        refine ⟨R, ?_, ?_, ?_, e4⟩
        · rw [decide_eq_false c]
          refine Ev.step (fun k => by rw [xstrings_WordSplit.l0]) (Ev.pos (by rw [hz]; omega) ?_)
          rw [hdec]
          refine Ev.bind (Ev.ok _) (Ev.bind hal (Ev.pos rfl (Ev.neg Bool.false_ne_true ?_)))
          rw [show wrap64 (0 + 1) = 1 from w64_in (by omega) (by omega)]
          exact goSplit _ _ _ _ _ e1
        · refine Ev.step (fun k => by rw [spec_LetterWords.l0]) (Ev.pos (by omega) (Ev.pos (by omega) (Ev.pos (by omega) ?_)))
          rw [isLetter_f, hL]
          exact Ev.bind (Ev.ok _) (Ev.pos rfl (inWord R e2))
        · rw [decide_eq_false c, if_neg c]
          refine Ev.step (fun k => by rw [xstrings_WordCount.l0]) (Ev.pos (by rw [hz]; omega) ?_)
          rw [hdec]
          refine Ev.bind (Ev.ok _) (Ev.bind hal (Ev.pos rfl (Ev.neg Bool.false_ne_true ?_)))
          rw [Int.add_zero, w64_in (by omega) (by omega)]
          exact goCount _ _ _ e3
    | false =>
      rw [hL] at hal
      cases hT : tieB (bt s i) with
      | true =>
        obtain ⟨hi0, hlp⟩ := ht i hlt hT
        have c : p < i := hle hi0 hlp
        have hpi : p < i + 1 := by omega
        obtain ⟨h3, h7⟩ := hin c
        obtain ⟨R, e1, e2, e3, e4⟩ := words_from s hn ha ht d (i + 1) p ws x3 (x7 + 1) (by omega) (by omega) (by omega) (by omega) (by omega) (fun _ => ⟨h3, by omega⟩) (fun _ _ => hpi)
        rw [decide_eq_true hpi] at e1 e3
        rw [if_pos hpi] at e3
        have hte : bt s i = 39 ∨ bt s i = 45 := of_decide_eq_true hT
        have j1 : Ev (fun k => xstrings_WordSplit.j1 k (s.extract i s.size) x3 ws 1 x7 true true) R := by
          refine Ev.step (fun k => by rw [xstrings_WordSplit.j1]) (Ev.pos rfl ?_)
          rw [hw7]
          exact goSplit _ _ _ _ _ e1
        refine ⟨R, ?_, ?_, ?_, e4⟩
        · rw [decide_eq_true c]
          refine Ev.step (fun k => by rw [xstrings_WordSplit.l0]) (Ev.pos (by rw [hz]; omega) ?_)
          rw [hdec]
          refine Ev.bind (Ev.ok _) (Ev.bind hal (Ev.neg Bool.false_ne_true (Ev.pos rfl ?_)))
          by_cases c9 : bt s i = 39
          · exact Ev.pos c9 j1
          · have h45 : bt s i = 45 := by omega
            refine Ev.neg c9 ?_
            rw [show (bt s i == 45) = true from beq_iff_eq.2 h45]
            exact j1
        · refine Ev.step (fun k => by rw [spec_LetterWords.l0]) (Ev.pos (by omega) (Ev.pos (by omega) (Ev.pos (by omega) ?_)))
          rw [isLetter_f, hL]
          refine Ev.bind (Ev.ok _) (Ev.neg Bool.false_ne_true ?_)
          by_cases c9 : bt s i = 39
          · exact Ev.pos c9 (inWord R e2)
          · have h45 : bt s i = 45 := by omega
            refine Ev.neg c9 ?_
            rw [show (bt s i == 45) = true from beq_iff_eq.2 h45]
            exact inWord R e2
        · rw [decide_eq_true c, if_pos c]
          refine Ev.step (fun k => by rw [xstrings_WordCount.l0]) (Ev.pos (by rw [hz]; omega) ?_)
          rw [hdec]
          refine Ev.bind (Ev.ok _) (Ev.bind hal (Ev.neg Bool.false_ne_true (Ev.pos rfl ?_)))
          by_cases c9 : bt s i = 39
          · exact Ev.pos c9 (goCount _ _ _ e3)
          · exact Ev.neg c9 (Ev.pos (by omega) (goCount _ _ _ e3))
      | false =>
        have hte : ¬ (bt s i = 39 ∨ bt s i = 45) := of_decide_eq_false hT
        have n1 : ¬ bt s i = 39 := fun h => hte (.inl h)
        have n2 : ¬ bt s i = 45 := fun h => hte (.inr h)
        have n3 : (bt s i == 45) = false := beq_eq_false_iff_ne.2 n2
        have hpi : ¬ i + 1 < i + 1 := by omega
        have hnl : 0 < i + 1 → letB (bt s ((i + 1 - 1 : Nat) : Int)) = true → i + 1 < i + 1 := by
          intro _ h
          rw [hprev, hL] at h
          cases h
        have e0 : s.extract (i + 1) (i + 1) = ⟨#[]⟩ := by
          apply ba_ext
          rw [extract_list]
          simp
        by_cases c : p < i
        · obtain ⟨h3, h7⟩ := hin c
          obtain ⟨R, e1, e2, e3, e4⟩ := words_from s hn ha ht d (i + 1) (i + 1) (ws ++ [s.extract p i]) x3 (x7 + 1) (by omega) (by omega) (by simp; omega) (by omega) (by omega) (fun h => absurd h hpi) hnl
          rw [decide_eq_false hpi] at e1 e3
          rw [if_neg hpi] at e3
          refine ⟨R, ?_, ?_, ?_, e4⟩
          · rw [decide_eq_true c]
            refine Ev.step (fun k => by rw [xstrings_WordSplit.l0]) (Ev.pos (by rw [hz]; omega) ?_)
            rw [hdec]
            refine Ev.bind (Ev.ok _) (Ev.bind hal (Ev.neg Bool.false_ne_true (Ev.pos rfl (Ev.neg n1 ?_))))
            rw [n3]
            refine Ev.step (fun k => by rw [xstrings_WordSplit.j1]) (Ev.neg Bool.false_ne_true (Ev.pos rfl ?_))
            have hx : x3.extract 0 x7.toNat = s.extract p i := by
              rw [h3, h7, Int.toNat_natCast, ByteArray.extract_extract]
              congr 1
              omega
            rw [hx, hw7]
            exact Ev.pos h70 (Ev.pos (by rw [h3, ByteArray.size_extract]; omega) (Ev.pos (by omega) (goSplit _ _ _ _ _ e1)))
          · refine Ev.step (fun k => by rw [spec_LetterWords.l0]) (Ev.pos (by omega) (Ev.pos (by omega) (Ev.pos (by omega) ?_)))
            rw [isLetter_f, hL]
            refine Ev.bind (Ev.ok _) (Ev.neg Bool.false_ne_true (Ev.neg n1 ?_))
            rw [n3]
            refine Ev.step (fun k => by rw [spec_LetterWords.j1]) (Ev.neg Bool.false_ne_true (Ev.neg (fun h => (ext_nil s p i (by omega)).1 h c) (Ev.pos (by omega) ?_)))
            rw [hw, ← e0]
            exact e2
          · rw [decide_eq_true c, if_pos c]
            refine Ev.step (fun k => by rw [xstrings_WordCount.l0]) (Ev.pos (by rw [hz]; omega) ?_)
            rw [hdec]
            refine Ev.bind (Ev.ok _) (Ev.bind hal (Ev.neg Bool.false_ne_true (Ev.pos rfl (Ev.neg n1 (Ev.neg n2 (goCount _ _ _ ?_))))))
            rw [List.length_append, List.length_singleton] at e3
            simpa using e3
        · have hpe : p = i := by omega
          obtain ⟨R, e1, e2, e3, e4⟩ := words_from s hn ha ht d (i + 1) (i + 1) ws x3 (x7 + 1) (by omega) (by omega) (by omega) (by omega) (by omega) (fun h => absurd h hpi) hnl
          rw [decide_eq_false hpi] at e1 e3
          rw [if_neg hpi] at e3
          refine ⟨R, ?_, ?_, ?_, e4⟩
          · rw [decide_eq_false c]
            refine Ev.step (fun k => by rw [xstrings_WordSplit.l0]) (Ev.pos (by rw [hz]; omega) ?_)
            rw [hdec]
            refine Ev.bind (Ev.ok _) (Ev.bind hal (Ev.neg Bool.false_ne_true (Ev.neg Bool.false_ne_true ?_)))
            refine Ev.step (fun k => by rw [xstrings_WordSplit.j1]) (Ev.neg Bool.false_ne_true (Ev.neg Bool.false_ne_true ?_))
            rw [hw7]
            exact goSplit _ _ _ _ _ e1
          · refine Ev.step (fun k => by rw [spec_LetterWords.l0]) (Ev.pos (by omega) (Ev.pos (by omega) (Ev.pos (by omega) ?_)))
            rw [isLetter_f, hL]
            refine Ev.bind (Ev.ok _) (Ev.neg Bool.false_ne_true (Ev.neg n1 ?_))
            rw [n3]
            refine Ev.step (fun k => by rw [spec_LetterWords.j1]) (Ev.neg Bool.false_ne_true (Ev.pos ((ext_nil s p i (by omega)).2 c) ?_))
            rw [hw, ← e0]
            exact e2
          · rw [decide_eq_false c, if_neg c]
            refine Ev.step (fun k => by rw [xstrings_WordCount.l0]) (Ev.pos (by rw [hz]; omega) ?_)
            rw [hdec]
            exact Ev.bind (Ev.ok _) (Ev.bind hal (Ev.neg Bool.false_ne_true (Ev.neg Bool.false_ne_true (goCount _ _ _ e3))))
theorem same_from (l : List ByteArray) (hl : l.length ≤ 1000) : ∀ (d i : Nat), i + d = l.length → Ev (fun k => spec_SameTexts.l0 k l l (l.length : Int) (i : Int)) true
  | 0, i, hi => by
    refine Ev.step (fun k => by rw [spec_SameTexts.l0]) ?_
    exact Ev.neg (by omega) (Ev.ok _)
  | d + 1, i, hi => by
    have hw : wrap64 ((i : Int) + 1) = ((i + 1 : Nat) : Int) := by rw [w64_in (by omega) (by omega)]; rfl
    refine Ev.step (fun k => by rw [spec_SameTexts.l0]) (Ev.pos (by omega) (Ev.pos (by omega) (Ev.pos (by omega) (Ev.pos (by omega) (Ev.pos rfl ?_)))))
    rw [hw]
    exact same_from l hl d (i + 1) (by omega)
theorem words_of (s : ByteArray) (hn : s.size ≤ 500) (ha : ascii s) (ht : tied s) : ∃ R : List ByteArray, Ev (fun k => impl_WordsIn.f k s) R ∧ Ev (fun k => spec_LetterWords.f k s) R ∧ Ev (fun k => impl_WordsMany.f k s) (R.length : Int) ∧ R.length ≤ s.size + 1 := by
  obtain ⟨R, e1, e2, e3, e4⟩ := words_from s hn ha ht s.size 0 0 [] ⟨#[]⟩ 0 (by omega) (by omega) (by simp) (by omega) (by omega) (fun h => by omega) (fun h => by omega)
  rw [decide_eq_false (by omega), extract_whole] at e1 e3
  rw [if_neg (by omega)] at e3
  have e0 : s.extract 0 0 = ⟨#[]⟩ := by
    apply ba_ext
    rw [extract_list]
    simp
  rw [e0] at e2
  refine ⟨R, ?_, e2, ?_, e4⟩
  · unfold impl_WordsIn.f xstrings_WordSplit.f
    exact Ev.bind e1 (Ev.ok _)
  · unfold impl_WordsMany.f xstrings_WordCount.f
    exact Ev.bind e3 (Ev.ok _)

theorem FnWordsIn : laws_FnWordsIn.Pure := by
  intro s hs
  refine Ev.rounds (g := fun k => laws_FnWordsIn.f k s) ?_
  unfold laws_FnWordsIn.f
  have far : Ev (fun k => laws_FnWordsIn.j0 k s true) true := Ev.step (fun k => by rw [laws_FnWordsIn.j0]) (Ev.pos rfl (Ev.ok _))
  by_cases h1 : (s.size : Int) > 2147483647
  · exact Ev.pos h1 (Ev.ok _)
  refine Ev.neg h1 ?_
  obtain ⟨q, e, hq⟩ := plain9_tells [s] (by simp)
  refine Ev.bind e ?_
  cases q with
  | false => exact Ev.neg Bool.false_ne_true far
  | true =>
    refine Ev.pos rfl ?_
    obtain ⟨hs5, ha⟩ := hq rfl s (by simp)
    obtain ⟨b, eb, hb⟩ := tied_from s hs5 s.size 0 (by omega)
    refine Ev.bind eb ?_
    cases b with
    | false => exact far
    | true =>
      show Ev (fun k => laws_FnWordsIn.j0 k s false) true
      refine Ev.step (fun k => by rw [laws_FnWordsIn.j0]) (Ev.neg Bool.false_ne_true ?_)
      obtain ⟨R, r1, r2, r3, r4⟩ := words_of s hs5 ha (fun i hi ht => hb rfl i (Nat.zero_le _) hi ht)
      have hx : ascii (⟨#[97, 32, 98]⟩ : ByteArray) := by
        intro i hi
        have : i = 0 ∨ i = 1 ∨ i = 2 := by have : i < 3 := hi; omega
        rcases this with rfl | rfl | rfl <;> decide
      have hx2 : tied (⟨#[97, 32, 98]⟩ : ByteArray) := by
        intro i hi ht
        have : i = 0 ∨ i = 1 ∨ i = 2 := by have : i < 3 := hi; omega
        rcases this with rfl | rfl | rfl <;> exact absurd ht (by decide)
      obtain ⟨X, x1, x2, x3, x4⟩ := words_of (⟨#[97, 32, 98]⟩ : ByteArray) (by decide) hx hx2
      have hX : X.length = 2 := by
        have hc : spec_LetterWords.f 20 (⟨#[97, 32, 98]⟩ : ByteArray) = some [⟨#[97]⟩, ⟨#[98]⟩] := by decide +kernel
        rw [ev_one x2 (Ev.of (fun k => spec_LetterWords.mono (⟨#[97, 32, 98]⟩ : ByteArray) k) hc)]
        rfl
      refine Ev.bind r2 (Ev.bind r1 (Ev.bind ?_ (Ev.pos rfl (Ev.bind r3 (Ev.pos rfl (Ev.bind x3 (Ev.eq ?_ (Ev.ok _))))))))
      · unfold spec_SameTexts.f
        exact Ev.pos rfl (same_from R (by omega) R.length 0 (by omega))
      · rw [hX]; rfl
end Go.Proofs.YtbcccmoddbmffaaDoor.Pure
