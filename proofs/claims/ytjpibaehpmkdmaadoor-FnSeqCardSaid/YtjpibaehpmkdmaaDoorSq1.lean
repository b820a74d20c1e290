/- Rows of numbers: what seq and the reference's row write, plainly. -/
import Derived.Test.YtjpibaehpmkdmaaDoorPx16
set_option linter.unusedVariables false
set_option linter.unusedSimpArgs false
namespace Go.Proofs.YtjpibaehpmkdmaaDoor.P
open Go.RowKit Go.Proofs.YtjpibaehpmkdmaaDoorW.PrintWords Go.Proofs.YtjpibaehpmkdmaaDoorW.PrintLast Go.Proofs.YtjpibaehpmkdmaaDoorW.PrintMore

def EvF {α : Type} (f : Nat → Option α) (r : α) : Prop := ∃ K, ∀ k, K ≤ k → f k = some r
theorem up_ev (tt step : Int) (hs : 0 < step) (hs2 : step ≤ 1000) (ht0 : -1000 ≤ tt) (ht : tt ≤ 1000) : ∀ (m : Nat) (from_ : Int) (acc : List Int), -1000 ≤ from_ → from_ ≤ 2000 → tt - from_ ≤ m → m ≤ 5000 → acc.length + m ≤ 1000000 →
    ∃ l, l.length ≤ m ∧ (∀ x ∈ l, i64in x = true) ∧ (∀ k, m + 1 ≤ k → sprig_untilStep.l1 k tt step acc from_ = some (acc ++ l)) ∧ (∀ k, 2 * m + 2 ≤ k → spec_Row.l0 k tt step acc from_ = some (acc ++ l, true)) := by
  have hn : ¬ step < 0 := by omega
  have stop : ∀ (m : Nat) (from_ : Int) (acc : List Int), ¬ from_ < tt → ∃ l, l.length ≤ m ∧ (∀ x ∈ l, i64in x = true) ∧ (∀ k, m + 1 ≤ k → sprig_untilStep.l1 k tt step acc from_ = some (acc ++ l)) ∧ (∀ k, 2 * m + 2 ≤ k → spec_Row.l0 k tt step acc from_ = some (acc ++ l, true)) := fun m from_ acc hc => by
    refine ⟨[], Nat.zero_le _, fun x hx => (by cases hx), fun k hk => ?_, fun k hk => ?_⟩
    · obtain ⟨k, rfl⟩ : ∃ j, k = j + 1 := ⟨k - 1, by omega⟩
      rw [sprig_untilStep.l1, if_neg hc, List.append_nil]
    · obtain ⟨k, rfl⟩ : ∃ j, k = j + 2 := ⟨k - 2, by omega⟩
      rw [spec_Row.l0, if_pos hs, if_neg hc, if_neg hn, spec_Row.j2, if_neg (by decide), List.append_nil]
  intro m
  induction m with
  | zero => exact fun from_ acc h0 h1 hm hm2 hl => stop 0 from_ acc (by omega)
  | succ m ih =>
    intro from_ acc h0 h1 hm hm2 hl
    by_cases hc : from_ < tt
    · have hw : wrap64 (from_ + step) = from_ + step := w64_in (by omega) (by omega)
      obtain ⟨l, hl1, hl2, hl3, hl4⟩ := ih (from_ + step) (acc ++ [from_]) (by omega) (by omega) (by omega) (by omega) (by rw [List.length_append, List.length_singleton]; omega)
      refine ⟨from_ :: l, by rw [List.length_cons]; omega, fun x hx => ?_, fun k hk => ?_, fun k hk => ?_⟩
      · rcases List.mem_cons.1 hx with rfl | hx
        · simp only [i64in, Bool.and_eq_true, decide_eq_true_eq]
          omega
        · exact hl2 x hx
      · obtain ⟨k, rfl⟩ : ∃ j, k = j + 1 := ⟨k - 1, by omega⟩
        rw [sprig_untilStep.l1, if_pos hc, if_pos (by omega), hw, hl3 k (by omega), List.append_assoc]
        rfl
      · obtain ⟨k, rfl⟩ : ∃ j, k = j + 2 := ⟨k - 2, by omega⟩
        rw [spec_Row.l0, if_pos hs, if_pos hc, spec_Row.j2, if_pos rfl, if_pos (by omega), hw, hl4 k (by omega), List.append_assoc]
        rfl
    · exact stop (m + 1) from_ acc hc
theorem down_ev (tt step : Int) (hs : step < 0) (hs2 : -1000 ≤ step) (ht0 : -1000 ≤ tt) (ht : tt ≤ 1000) : ∀ (m : Nat) (from_ : Int) (acc : List Int), from_ ≤ 1000 → -2000 ≤ from_ → from_ - tt ≤ m → m ≤ 5000 → acc.length + m ≤ 1000000 →
    ∃ l, l.length ≤ m ∧ (∀ x ∈ l, i64in x = true) ∧ (∀ k, m + 1 ≤ k → sprig_untilStep.l0 k tt step acc from_ = some (acc ++ l)) ∧ (∀ k, 2 * m + 2 ≤ k → spec_Row.l0 k tt step acc from_ = some (acc ++ l, true)) := by
  have hn : ¬ step > 0 := by omega
  have stop : ∀ (m : Nat) (from_ : Int) (acc : List Int), ¬ from_ > tt → ∃ l, l.length ≤ m ∧ (∀ x ∈ l, i64in x = true) ∧ (∀ k, m + 1 ≤ k → sprig_untilStep.l0 k tt step acc from_ = some (acc ++ l)) ∧ (∀ k, 2 * m + 2 ≤ k → spec_Row.l0 k tt step acc from_ = some (acc ++ l, true)) := fun m from_ acc hc => by
    refine ⟨[], Nat.zero_le _, fun x hx => (by cases hx), fun k hk => ?_, fun k hk => ?_⟩
    · obtain ⟨k, rfl⟩ : ∃ j, k = j + 1 := ⟨k - 1, by omega⟩
      rw [sprig_untilStep.l0, if_neg hc, List.append_nil]
    · obtain ⟨k, rfl⟩ : ∃ j, k = j + 2 := ⟨k - 2, by omega⟩
      rw [spec_Row.l0, if_neg hn, if_pos hs, spec_Row.j2, if_neg (by rw [decide_eq_true_eq]; exact hc), List.append_nil]
  intro m
  induction m with
  | zero => exact fun from_ acc h0 h1 hm hm2 hl => stop 0 from_ acc (by omega)
  | succ m ih =>
    intro from_ acc h0 h1 hm hm2 hl
    by_cases hc : from_ > tt
    · have hw : wrap64 (from_ + step) = from_ + step := w64_in (by omega) (by omega)
      obtain ⟨l, hl1, hl2, hl3, hl4⟩ := ih (from_ + step) (acc ++ [from_]) (by omega) (by omega) (by omega) (by omega) (by rw [List.length_append, List.length_singleton]; omega)
      refine ⟨from_ :: l, by rw [List.length_cons]; omega, fun x hx => ?_, fun k hk => ?_, fun k hk => ?_⟩
      · rcases List.mem_cons.1 hx with rfl | hx
        · simp only [i64in, Bool.and_eq_true, decide_eq_true_eq]
          omega
        · exact hl2 x hx
      · obtain ⟨k, rfl⟩ : ∃ j, k = j + 1 := ⟨k - 1, by omega⟩
        rw [sprig_untilStep.l0, if_pos hc, if_pos (by omega), hw, hl3 k (by omega), List.append_assoc]
        rfl
      · obtain ⟨k, rfl⟩ : ∃ j, k = j + 2 := ⟨k - 2, by omega⟩
        rw [spec_Row.l0, if_neg hn, if_pos hs, spec_Row.j2, if_pos (decide_eq_true hc), if_pos (by omega), hw, hl4 k (by omega), List.append_assoc]
        rfl
    · exact stop (m + 1) from_ acc hc
/-- The way from one number to another. -/
def tow (a b : Int) : Int := if b < a then -1 else 1
theorem row_ev (a b s : Int) (ha0 : -300 ≤ a) (ha1 : a ≤ 300) (hb0 : -300 ≤ b) (hb1 : b ≤ 300) (hs0 : -300 ≤ s) (hs1 : s ≤ 300) (hs : s ≠ 0) (hw : tow 0 s = tow a b) :
    ∃ l, l.length ≤ 1000 ∧ (∀ x ∈ l, i64in x = true) ∧ EvF (fun k => sprig_untilStep.f k a (b + tow a b) s) l ∧ EvF (fun k => spec_Row.f k a (b + tow a b) s) (l, true) := by
  unfold tow at *
  by_cases c : b < a
  · rw [if_pos c] at hw ⊢
    have hsn : s < 0 := by
      by_cases h : s < 0
      · exact h
      · rw [if_neg h] at hw
        cases hw
    obtain ⟨l, h1, h2, h3, h4⟩ := down_ev (b + -1) s hsn (by omega) (by omega) (by omega) 1000 a [] (by omega) (by omega) (by omega) (by decide) (by decide)
    refine ⟨l, h1, h2, ⟨1001, fun k hk => ?_⟩, ⟨2003, fun k hk => ?_⟩⟩
    · show sprig_untilStep.f k a (b + -1) s = some l
      unfold sprig_untilStep.f
      rw [Option.bind_some, if_pos (by omega), if_neg (by omega)]
      exact h3 k hk
    · show spec_Row.f k a (b + -1) s = some (l, true)
      unfold spec_Row.f
      obtain ⟨k, rfl⟩ : ∃ j, k = j + 1 := ⟨k - 1, by omega⟩
      rw [if_neg hs, if_neg (by omega), if_pos (by omega), decide_eq_false (by omega), spec_Row.j0, if_neg (by decide)]
      exact h4 k (by omega)
  · rw [if_neg c] at hw ⊢
    have hsn : 0 < s := by
      by_cases h : s < 0
      · rw [if_pos h] at hw
        cases hw
      · omega
    obtain ⟨l, h1, h2, h3, h4⟩ := up_ev (b + 1) s hsn (by omega) (by omega) (by omega) 1000 a [] (by omega) (by omega) (by omega) (by decide) (by decide)
    refine ⟨l, h1, h2, ⟨1001, fun k hk => ?_⟩, ⟨2003, fun k hk => ?_⟩⟩
    · show sprig_untilStep.f k a (b + 1) s = some l
      unfold sprig_untilStep.f
      rw [Option.bind_some, if_neg (by omega), if_neg (by omega)]
      exact h3 k hk
    · show spec_Row.f k a (b + 1) s = some (l, true)
      unfold spec_Row.f
      obtain ⟨k, rfl⟩ : ∃ j, k = j + 1 := ⟨k - 1, by omega⟩
      rw [if_neg hs, if_pos (by omega), if_neg (by omega), if_neg (by omega), spec_Row.j0, if_neg (by decide)]
      exact h4 k (by omega)
theorem join_more (xs : List ByteArray) (sep : ByteArray) (k : Nat) (h : k < xs.length) (h0 : 0 < k) : joinB (xs.take (k + 1)) sep = (joinB (xs.take k) sep ++ sep) ++ xs[k] := by
  cases xs with
  | nil => simp at h
  | cons x r =>
    obtain ⟨j, rfl⟩ : ∃ j, k = j + 1 := ⟨k - 1, by omega⟩
    have hj : j < r.length := by simpa using h
    apply ba_ext
    have hg : (r.map (·.data.toList))[j]? = some (r[j]).data.toList := by simp [hj]
    have h1 := Lib.joinTail_take_succ sep.data.toList (r.map (·.data.toList)) j _ hg
    simp only [joinB, List.take_succ_cons, List.map_cons, Lib.join_cons, List.map_take, append_list, List.getElem_cons_succ]
    rw [h1]
    simp
theorem join_first (xs : List ByteArray) (sep : ByteArray) (h : 0 < xs.length) : joinB (xs.take 1) sep = (⟨#[]⟩ : ByteArray) ++ xs[0] := by
  cases xs with
  | nil => simp at h
  | cons x r =>
    apply ba_ext
    simp [joinB, Lib.join_one]
theorem joinB_size (xs : List ByteArray) (sep : ByteArray) (hx : ∀ x ∈ xs, x.size ≤ 500) (hsep : sep.size ≤ 2147483647) (hn : xs.length ≤ 1000) : (joinB xs sep).size ≤ 3000000000000 := by
  have h := join_le (xs.map (·.data.toList)) sep.data.toList 500 (fun y hy => by
    obtain ⟨z, hz, rfl⟩ := List.mem_map.1 hy
    have := hx z hz
    rw [Array.length_toList]
    exact this)
  rw [List.length_map] at h
  have e1 : sep.data.toList.length ≤ 2147483647 := by rw [Array.length_toList]; exact hsep
  have h5 : sep.data.toList.length * xs.length ≤ 2147483647 * 1000 := Nat.mul_le_mul e1 hn
  have h6 : xs.length * 500 ≤ 1000 * 500 := Nat.mul_le_mul_right 500 hn
  show (Lib.join (xs.map (·.data.toList)) sep.data.toList).toArray.size ≤ 3000000000000
  rw [List.size_toArray]
  omega
theorem dec_f (x : Int) (h : i64in x = true) : spec_Decimal.f x = some (decB x) := by
  simp only [i64in, Bool.and_eq_true, decide_eq_true_eq] at h
  unfold spec_Decimal.f strconv_FormatInt_59.f
  rw [if_pos ⟨h.1, h.2, rfl⟩]
  rfl
theorem dec_size (l : List Int) (h : ∀ x ∈ l, i64in x = true) : ∀ y ∈ l.map decB, y.size ≤ 500 := fun y hy => by
  obtain ⟨x, hx, rfl⟩ := List.mem_map.1 hy
  have h := h x hx
  simp only [i64in, Bool.and_eq_true, decide_eq_true_eq] at h
  exact itoa_len x h.1 h.2
theorem take_bound (l : List Int) (h : ∀ x ∈ l, i64in x = true) (hl : l.length ≤ 1000) (j : Nat) : (joinB ((l.map decB).take j) (⟨#[32]⟩ : ByteArray)).size ≤ 3000000000000 :=
  joinB_size _ _ (fun y hy => dec_size l h y (List.mem_of_mem_take hy)) (by decide) (by rw [List.length_take, List.length_map]; omega)
theorem texts_ev (l : List Int) (h : ∀ x ∈ l, i64in x = true) (hl : l.length ≤ 1000) : EvF (fun k => laws_texts7.f k l) (joinB (l.map decB) (⟨#[32]⟩ : ByteArray)) := by
  have main : ∀ (d j : Nat), j + d = l.length → ∀ k, 2 * d + 1 ≤ k → laws_texts7.l0 k l (joinB ((l.map decB).take j) (⟨#[32]⟩ : ByteArray)) (j : Int) = some (joinB (l.map decB) (⟨#[32]⟩ : ByteArray)) := by
    intro d
    induction d with
    | zero =>
      intro j hj k hk
      obtain ⟨k, rfl⟩ : ∃ i, k = i + 1 := ⟨k - 1, by omega⟩
      rw [laws_texts7.l0, if_neg (by omega), List.take_of_length_le (by rw [List.length_map]; omega)]
    | succ d ih =>
      intro j hj k hk
      obtain ⟨k, rfl⟩ : ∃ i, k = i + 2 := ⟨k - 2, by omega⟩
      have hjl : j < l.length := by omega
      have hrd : rd l (j : Int) = l[j] := by simp [rd, List.getD_eq_getElem?_getD, hjl]
      have hb := take_bound l h hl j
      have hd := dec_f l[j] (h _ (List.getElem_mem hjl))
      have hds := dec_size l h (decB l[j]) (List.mem_map_of_mem (List.getElem_mem hjl))
      have hw : wrap64 ((j : Int) + 1) = ((j + 1 : Nat) : Int) := by rw [w64_in (by omega) (by omega)]; omega
      have hmj : (l.map decB)[j]'(by rw [List.length_map]; exact hjl) = decB l[j] := by simp
      rw [laws_texts7.l0, if_pos (by omega)]
      by_cases c0 : 0 < j
      · have hm := join_more (l.map decB) (⟨#[32]⟩ : ByteArray) j (by rw [List.length_map]; exact hjl) c0
        rw [hmj] at hm
        have hsz : (joinB ((l.map decB).take j) (⟨#[32]⟩ : ByteArray) ++ (⟨#[32]⟩ : ByteArray)).size ≤ 3000000000001 := by
          rw [ByteArray.size_append]
          have : (⟨#[32]⟩ : ByteArray).size = 1 := rfl
          omega
        rw [if_pos (by omega), if_pos (by omega), laws_texts7.j1, if_pos (by omega), if_pos (by omega), hrd, hd, Option.bind_some, if_pos (by omega), ← hm, hw]
        exact ih (j + 1) (by omega) k (by omega)
      · obtain rfl : j = 0 := by omega
        have hm := join_first (l.map decB) (⟨#[32]⟩ : ByteArray) (by rw [List.length_map]; exact hjl)
        rw [hmj] at hm
        have hz : joinB ((l.map decB).take 0) (⟨#[32]⟩ : ByteArray) = (⟨#[]⟩ : ByteArray) := rfl
        rw [if_neg (by omega), laws_texts7.j1, if_pos (by omega), if_pos (by omega), hrd, hd, Option.bind_some, if_pos (by omega), hz, ← hm, hw]
        exact ih 1 (by omega) k (by omega)
  refine ⟨2 * l.length + 1, fun k hk => ?_⟩
  exact main l.length 0 (by omega) k hk
theorem arr_f (l : List Int) (h : ∀ x ∈ l, i64in x = true) (hl : l.length ≤ 1000) : sprig_intArrayToString.f l (⟨#[32]⟩ : ByteArray) = some (joinB (l.map decB) (⟨#[32]⟩ : ByteArray)) := by
  unfold sprig_intArrayToString.f
  rw [if_pos ⟨hl, List.all_eq_true.2 h, by decide⟩]
theorem seq0_1 (k : Nat) (a : Int) : impl_Seq.f (k + 4) [a] = (sprig_Seq.f (k + 2) [a]).bind fun t => some t := by
  have w1 : wrap64 1 = 1 := w64_in (by decide) (by decide)
  simp [impl_Seq.f, impl_Seq.l0, rd, w1]
theorem seq0_2 (k : Nat) (a b : Int) : impl_Seq.f (k + 4) [a, b] = (sprig_Seq.f (k + 1) [a, b]).bind fun t => some t := by
  have w1 : wrap64 1 = 1 := w64_in (by decide) (by decide)
  have w2 : wrap64 2 = 2 := w64_in (by decide) (by decide)
  simp [impl_Seq.f, impl_Seq.l0, rd, w1, w2]
theorem seq0_3 (k : Nat) (a b c : Int) : impl_Seq.f (k + 4) [a, b, c] = (sprig_Seq.f k [a, b, c]).bind fun t => some t := by
  have w1 : wrap64 1 = 1 := w64_in (by decide) (by decide)
  have w2 : wrap64 2 = 2 := w64_in (by decide) (by decide)
  have w3 : wrap64 3 = 3 := w64_in (by decide) (by decide)
  simp [impl_Seq.f, impl_Seq.l0, rd, w1, w2, w3]
def RowT (a b s : Int) (t : ByteArray) : Prop := ∃ l, (∀ x ∈ l, i64in x = true) ∧ l.length ≤ 1000 ∧ EvF (fun k => spec_Row.f k a (b + tow a b) s) (l, true) ∧ EvF (fun k => laws_texts7.f k l) t
theorem tow_in (a b : Int) (hb0 : -300 ≤ b) (hb1 : b ≤ 300) : wrap64 (b + tow a b) = b + tow a b := by
  unfold tow
  split <;> exact w64_in (by omega) (by omega)
theorem tow_ne (a b : Int) : tow a b ≠ 0 := by unfold tow; split <;> decide
theorem tow_tow (a b : Int) : tow 0 (tow a b) = tow a b := by unfold tow; split <;> decide
theorem tow_lo (a b : Int) : -300 ≤ tow a b ∧ tow a b ≤ 300 := by unfold tow; split <;> decide
theorem seq1_ev (b : Int) (hb0 : -300 ≤ b) (hb1 : b ≤ 300) : ∃ t, EvF (fun k => impl_Seq.f k [b]) t ∧ RowT 1 b (tow 1 b) t := by
  obtain ⟨l, h1, h2, ⟨K, h3⟩, h4⟩ := row_ev 1 b (tow 1 b) (by decide) (by decide) hb0 hb1 (tow_lo 1 b).1 (tow_lo 1 b).2 (tow_ne 1 b) (tow_tow 1 b)
  refine ⟨_, ⟨K + 10, fun k hk => ?_⟩, l, h2, h1, h4, texts_ev l h2 h1⟩
  obtain ⟨k, rfl⟩ : ∃ j, k = j + 4 := ⟨k - 4, by omega⟩
  show impl_Seq.f (k + 4) [b] = _
  rw [seq0_1]
  have hj : sprig_seq.j0 (k + 2) (tow 1 b) 1 b = some (joinB (l.map decB) (⟨#[32]⟩ : ByteArray)) := by
    rw [sprig_seq.j0, tow_in 1 b hb0 hb1, show sprig_untilStep.f (k + 1) 1 (b + tow 1 b) (tow 1 b) = some l from h3 (k + 1) (by omega), Option.bind_some, arr_f l h2 h1]
    rfl
  have : sprig_seq.f (k + 2) [b] = sprig_seq.j0 (k + 2) (tow 1 b) 1 b := by
    unfold tow
    by_cases c : b < 1 <;> simp [sprig_seq.f, rd, c]
  rw [sprig_Seq.f, this, hj]
  rfl
theorem seq2_ev (a b : Int) (ha0 : -300 ≤ a) (ha1 : a ≤ 300) (hb0 : -300 ≤ b) (hb1 : b ≤ 300) : ∃ t, EvF (fun k => impl_Seq.f k [a, b]) t ∧ RowT a b (tow a b) t := by
  obtain ⟨l, h1, h2, ⟨K, h3⟩, h4⟩ := row_ev a b (tow a b) ha0 ha1 hb0 hb1 (tow_lo a b).1 (tow_lo a b).2 (tow_ne a b) (tow_tow a b)
  refine ⟨_, ⟨K + 10, fun k hk => ?_⟩, l, h2, h1, h4, texts_ev l h2 h1⟩
  obtain ⟨k, rfl⟩ : ∃ j, k = j + 4 := ⟨k - 4, by omega⟩
  show impl_Seq.f (k + 4) [a, b] = _
  rw [seq0_2]
  have hj : sprig_seq.j2 (k + 1) a b (tow a b) = some (joinB (l.map decB) (⟨#[32]⟩ : ByteArray)) := by
    rw [sprig_seq.j2, tow_in a b hb0 hb1, show sprig_untilStep.f k a (b + tow a b) (tow a b) = some l from h3 k (by omega), Option.bind_some, arr_f l h2 h1]
    rfl
  have : sprig_seq.f (k + 1) [a, b] = sprig_seq.j2 (k + 1) a b (tow a b) := by
    unfold tow
    by_cases c : b < a <;> simp [sprig_seq.f, rd, c]
  rw [sprig_Seq.f, this, hj]
  rfl
theorem seq3_ev (a s b : Int) (ha0 : -300 ≤ a) (ha1 : a ≤ 300) (hb0 : -300 ≤ b) (hb1 : b ≤ 300) (hs0 : -300 ≤ s) (hs1 : s ≤ 300) (hs : s ≠ 0) (hw : tow 0 s = tow a b) : ∃ t, EvF (fun k => impl_Seq.f k [a, s, b]) t ∧ RowT a b s t := by
  obtain ⟨l, h1, h2, ⟨K, h3⟩, h4⟩ := row_ev a b s ha0 ha1 hb0 hb1 hs0 hs1 hs hw
  refine ⟨_, ⟨K + 10, fun k hk => ?_⟩, l, h2, h1, h4, texts_ev l h2 h1⟩
  obtain ⟨k, rfl⟩ : ∃ j, k = j + 5 := ⟨k - 5, by omega⟩
  show impl_Seq.f (k + 5) [a, s, b] = _
  rw [show k + 5 = (k + 1) + 4 from rfl, seq0_3]
  have hj : sprig_seq.j1 (k + 1) (tow a b) a b s = some (joinB (l.map decB) (⟨#[32]⟩ : ByteArray)) := by
    rw [sprig_seq.j1, tow_in a b hb0 hb1, show sprig_untilStep.f k a (b + tow a b) s = some l from h3 k (by omega), Option.bind_some, arr_f l h2 h1]
    rfl
  have : sprig_seq.f (k + 1) [a, s, b] = sprig_seq.j1 (k + 1) (tow a b) a b s := by
    unfold tow at hw ⊢
    by_cases c : b < a
    · rw [if_pos c] at hw ⊢
      have hsn : ¬ 0 < s := by
        intro h
        rw [if_neg (by omega)] at hw
        cases hw
      simp [sprig_seq.f, rd, c, hsn]
    · rw [if_neg c]
      simp [sprig_seq.f, rd, c]
  rw [sprig_Seq.f, this, hj]
  rfl
theorem seq123_ev : EvF (fun k => impl_Seq.f k [3]) (⟨#[49, 32, 50, 32, 51]⟩ : ByteArray) := by
  obtain ⟨t, ⟨K, h⟩, l, _⟩ := seq1_ev 3 (by decide) (by decide)
  refine ⟨K, fun k hk => ?_⟩
  have h2 := impl_Seq.mono [3]
  have h3 := h k hk
  have h4 : impl_Seq.f 20 [3] = some (⟨#[49, 32, 50, 32, 51]⟩ : ByteArray) := by decide +kernel
  have h5 : ∀ (n m : Nat) (r : ByteArray), impl_Seq.f n [3] = some r → impl_Seq.f (n + m) [3] = some r := fun n m r hr => by
    induction m with
    | zero => exact hr
    | succ m ih => exact h2 _ _ ih
  have h6 := h5 20 k _ h4
  have h7 := h5 k 20 _ h3
  rw [Nat.add_comm 20 k, h7] at h6
  exact h3.trans h6
end Go.Proofs.YtjpibaehpmkdmaaDoor.P
