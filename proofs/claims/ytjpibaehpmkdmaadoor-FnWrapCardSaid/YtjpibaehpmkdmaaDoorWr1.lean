/- FnWrap: what the text in lines is, and that spec.Wrapped computes it. -/
import Derived.Test.YtjpibaehpmkdmaaDoorPx22
import Derived.Test.YtjpibaehpmkdmaaDoorXw
import Derived.Lib.Hide
import Derived.Lib.LastIndexByte
set_option linter.unusedVariables false
set_option linter.unusedSimpArgs false
namespace Go.Proofs.YtjpibaehpmkdmaaDoor.P
open Go.RowKit Go.Proofs.YtjpibaehpmkdmaaDoorW.PrintWords Go.Proofs.YtjpibaehpmkdmaaDoorW.PrintLast Go.Proofs.YtjpibaehpmkdmaaDoorW.PrintMore

theorem list_get (s : ByteArray) (j : Nat) (h : j < s.size) : s.data.toList[j]? = some (s[j]'h) := by
  have h2 : j < s.data.toList.length := by rw [Array.length_toList]; exact h
  rw [List.getElem?_eq_getElem h2]
  rfl
theorem bt_opt (s : ByteArray) (j : Nat) : bt s (j : Int) = match s.data.toList[j]? with | some b => ((b.toNat : Nat) : Int) | none => 0 := by
  by_cases h : j < s.size
  · rw [list_get s j h, bt_nat s j h]
  · rw [List.getElem?_eq_none (by rw [Array.length_toList]; exact Nat.le_of_not_lt h)]
    unfold bt
    rw [dif_neg (by simpa using h)]
theorem data_bang (s : ByteArray) (j : Nat) (h : j < s.size) : ((s.data[j]!).toNat : Int) = bt s (j : Int) := by
  have h2 : j < s.data.size := h
  rw [bt_nat s j h, getElem!_pos s.data j h2]
  rfl
theorem ext_size (s : ByteArray) (a b : Nat) (h : b ≤ s.size) : (s.extract a b).size = b - a := by rw [ByteArray.size_extract]; omega
theorem bt_ext (s : ByteArray) (a b j : Nat) (h : a + j < b) : bt (s.extract a b) (j : Int) = bt s ((a + j : Nat) : Int) := by
  rw [bt_opt, bt_opt, extract_list, List.getElem?_take, if_pos (by omega), List.getElem?_drop]
theorem ext_ext (s : ByteArray) (a m : Nat) (h : a + m ≤ s.size) : (s.extract a s.size).extract m (s.extract a s.size).size = s.extract (a + m) s.size := by
  apply ba_ext
  rw [extract_list, extract_list, extract_list, ext_size _ _ _ (Nat.le_refl _), List.drop_take, List.drop_drop, List.take_take]
  congr 1
  omega
theorem ext_ext0 (s : ByteArray) (a k : Nat) (h : a + k ≤ s.size) : (s.extract a s.size).extract 0 k = s.extract a (a + k) := by
  apply ba_ext
  rw [extract_list, extract_list, extract_list, List.drop_zero, List.take_take]
  congr 1
  omega
theorem lastIdx_ext (s : ByteArray) (a b b' : Nat) (hb : b ≤ s.size) (hb' : b' ≤ s.size) (c : Int) : ∀ k, a + k ≤ b → a + k ≤ b' → Lib.lastIdx (s.extract a b) c k = Lib.lastIdx (s.extract a b') c k
  | 0, _, _ => rfl
  | k + 1, h, h' => by
    unfold Lib.lastIdx
    rw [data_bang _ k (by rw [ext_size _ _ _ hb]; omega), data_bang _ k (by rw [ext_size _ _ _ hb']; omega), bt_ext s a b k (by omega), bt_ext s a b' k (by omega), lastIdx_ext s a b b' hb hb' c k (by omega) (by omega)]
/-- The first blank from a place on; -1: there is none. -/
def fb (t : ByteArray) : Nat → Nat → Int
  | 0, _ => -1
  | f + 1, k => if bt t (k : Int) = 32 then (k : Int) else fb t f (k + 1)
theorem fb_ext (s : ByteArray) (a : Nat) : ∀ f k, a + k + f = s.size → (fb (s.extract a s.size) f k = -1 ∧ fb s f (a + k) = -1) ∨ ∃ i : Nat, fb (s.extract a s.size) f k = i ∧ fb s f (a + k) = ((a + i : Nat) : Int) ∧ a + i < s.size
  | 0, _, _ => .inl ⟨rfl, rfl⟩
  | f + 1, k, h => by
    unfold fb
    rw [bt_ext s a s.size k (by omega)]
    by_cases c : bt s ((a + k : Nat) : Int) = 32
    · rw [if_pos c, if_pos c]
      exact .inr ⟨k, rfl, rfl, by omega⟩
    · rw [if_neg c, if_neg c]
      exact fb_ext s a f (k + 1) (by omega)
theorem fb_range (s : ByteArray) : ∀ f k, k + f = s.size → fb s f k = -1 ∨ ∃ i : Nat, fb s f k = i ∧ k ≤ i ∧ i < s.size
  | 0, _, _ => .inl rfl
  | f + 1, k, h => by
    unfold fb
    split
    · exact .inr ⟨k, rfl, Nat.le_refl _, by omega⟩
    · rcases fb_range s f (k + 1) (by omega) with h1 | ⟨i, h1, h2, h3⟩
      · exact .inl h1
      · exact .inr ⟨i, h1, by omega, h3⟩
/-- One line: what is written, and how many bytes are gone. -/
def wst (m : Nat) (e : ByteArray) (cut : Bool) (r : ByteArray) : ByteArray × Nat :=
  if bt r 0 = 32 then (⟨#[]⟩, 1)
  else if 0 ≤ Lib.lastIdx r 32 (m + 1) then (r.extract 0 (Lib.lastIdx r 32 (m + 1)).toNat ++ e, (Lib.lastIdx r 32 (m + 1)).toNat + 1)
  else if cut = true then (r.extract 0 m ++ e, m)
  else if fb r (r.size - m) m < 0 then (r, r.size)
  else (r.extract 0 (fb r (r.size - m) m).toNat ++ e, (fb r (r.size - m) m).toNat + 1)
def wra (m : Nat) (e : ByteArray) (cut : Bool) : Nat → ByteArray → ByteArray
  | 0, r => r
  | n + 1, r => if m < r.size then (wst m e cut r).1 ++ wra m e cut n (r.extract (wst m e cut r).2 r.size) else r
theorem lastIdx_range (r : ByteArray) (k : Nat) : Lib.lastIdx r 32 k = -1 ∨ ∃ i : Nat, i < k ∧ Lib.lastIdx r 32 k = i := by
  rcases Lib.lastIdx_spec r 32 k with ⟨h, _⟩ | ⟨i, h1, h2, _⟩
  · exact .inl h
  · exact .inr ⟨i, h1, h2⟩
theorem app_assoc (a b c : ByteArray) : (a ++ b) ++ c = a ++ (b ++ c) := by
  apply ba_ext
  rw [append_list, append_list, append_list, append_list, List.append_assoc]
theorem app_size (a b : ByteArray) : (a ++ b).size = a.size + b.size := by rw [← size_list, append_list, List.length_append, size_list, size_list]
theorem app_nil (a : ByteArray) : a ++ (⟨#[]⟩ : ByteArray) = a := by
  apply ba_ext
  rw [append_list]
  simp
theorem nil_app (a : ByteArray) : (⟨#[]⟩ : ByteArray) ++ a = a := by
  apply ba_ext
  rw [append_list]
  simp
theorem ext_none (r : ByteArray) : r.extract r.size r.size = ⟨#[]⟩ := by
  apply ba_ext
  rw [extract_list, Nat.sub_self, List.take_zero]
theorem wr_nil (m : Nat) (e : ByteArray) (cut : Bool) (n : Nat) : wra m e cut n ⟨#[]⟩ = ⟨#[]⟩ := by
  cases n with
  | zero => rfl
  | succ n => unfold wra; rw [if_neg (by simp [ByteArray.size])]

/-! ### spec.Wrapped -/
theorem lastBlank_ev (r : ByteArray) (hr : r.size ≤ 100000) : ∀ j : Nat, j ≤ r.size → Ev (fun k => spec_lastBlank.l0 k r 0 ((j : Int) - 1)) (Lib.lastIdx r 32 j)
  | 0, _ => by
    refine Ev.step (fun k => by rw [spec_lastBlank.l0]) ?_
    refine Ev.neg (by omega) ?_
    exact Ev.ok _
  | j + 1, h => by
    have h1 : (((j + 1 : Nat) : Int) - 1) = (j : Int) := by omega
    rw [h1]
    refine Ev.step (fun k => by rw [spec_lastBlank.l0]) ?_
    unfold Lib.lastIdx
    rw [data_bang r j (by omega)]
    refine Ev.pos (by omega) (Ev.pos (by omega) (Ev.pos (by omega) ?_))
    by_cases c : bt r (j : Int) = 32
    · rw [if_pos c]
      exact Ev.pos c (Ev.ok _)
    · rw [if_neg c]
      refine Ev.neg c ?_
      rw [w64_in (by omega) (by omega)]
      exact lastBlank_ev r hr j (by omega)
theorem nextBlank_ev (r : ByteArray) (hr : r.size ≤ 100000) : ∀ f k : Nat, k + f = r.size → Ev (fun q => spec_nextBlank.l0 q r (k : Int)) (fb r f k)
  | 0, k, h => by
    refine Ev.step (fun k => by rw [spec_nextBlank.l0]) ?_
    refine Ev.neg (by omega) ?_
    exact Ev.ok _
  | f + 1, k, h => by
    refine Ev.step (fun k => by rw [spec_nextBlank.l0]) ?_
    unfold fb
    refine Ev.pos (by omega) (Ev.pos (by omega) ?_)
    by_cases c : bt r (k : Int) = 32
    · rw [if_pos c]
      exact Ev.pos c (Ev.ok _)
    · rw [if_neg c]
      refine Ev.neg c ?_
      rw [w64_in (by omega) (by omega)]
      exact nextBlank_ev r hr f (k + 1) (by omega)
theorem wrapped_ev (m : Nat) (e : ByteArray) (cut : Bool) (hm : 1 ≤ m) (he : e.size ≤ 20) : ∀ (n : Nat) (r o : ByteArray), r.size ≤ n → n ≤ 500 → o.size + 21 * r.size ≤ 100000 → Ev (fun k => spec_Wrapped.l0 k r (m : Int) e cut o) (o ++ wra m e cut n r) := by
  intro n
  induction n with
  | zero =>
    intro r o hr _ hb
    refine Ev.step (fun k => by rw [spec_Wrapped.l0]) ?_
    refine Ev.neg (by omega) (Ev.pos (by omega) ?_)
    exact Ev.ok _
  | succ n ih =>
    intro r o hr hn hb
    refine Ev.step (fun k => by rw [spec_Wrapped.l0]) ?_
    by_cases c : m < r.size
    · have hwr : wra m e cut (n + 1) r = (wst m e cut r).1 ++ wra m e cut n (r.extract (wst m e cut r).2 r.size) := by
        show (if m < r.size then _ else _) = _
        rw [if_pos c]
      rw [hwr]
      refine Ev.pos (by omega) (Ev.pos (by omega) ?_)
      by_cases c1 : bt r 0 = 32
      · have hv : wst m e cut r = (⟨#[]⟩, 1) := by unfold wst; rw [if_pos c1]
        rw [hv]
        refine Ev.pos c1 (Ev.pos (by omega) ?_)
        have h1 := ih (r.extract 1 r.size) o (by rw [ext_size _ _ _ (Nat.le_refl _)]; omega) (by omega) (by rw [ext_size _ _ _ (Nat.le_refl _)]; omega)
        rw [nil_app]
        exact h1
      · refine Ev.neg c1 ?_
        have hl : Ev (fun k => spec_lastBlank.f k r 0 (wrap64 ((m : Int) + 1))) (Lib.lastIdx r 32 (m + 1)) := by
          unfold spec_lastBlank.f
          have h2 : wrap64 (mn (wrap64 ((m : Int) + 1)) (r.size : Int) - 1) = (((m + 1 : Nat) : Int) - 1) := by
            have h3 : wrap64 ((m : Int) + 1) = (m : Int) + 1 := w64_in (by omega) (by omega)
            have h4 : mn ((m : Int) + 1) (r.size : Int) = (m : Int) + 1 := by unfold mn; split <;> omega
            rw [h3, h4, w64_in (by omega) (by omega)]
            omega
          rw [h2]
          exact lastBlank_ev r (by omega) (m + 1) (by omega)
        refine Ev.bind hl ?_
        rcases lastIdx_range r (m + 1) with hK | ⟨i, hi, hK⟩
        · rw [hK]
          refine Ev.neg (by decide) ?_
          cases cut with
          | true =>
            have hv : wst m e true r = (r.extract 0 m ++ e, m) := by unfold wst; rw [if_neg c1, hK, if_neg (by decide), if_pos rfl]
            rw [hv]
            refine Ev.pos rfl ?_
            have e1 : ((m : Int)).toNat = m := by omega
            have z1 : (r.extract 0 m).size = m := by rw [ext_size _ _ _ (by omega)]; omega
            refine Ev.pos (by omega) (Ev.pos (by omega) (Ev.pos (by rw [e1, z1]; omega) (Ev.pos (by rw [e1, app_size, z1]; omega) ?_)))
            rw [e1, ← app_assoc, ← app_assoc]
            exact ih (r.extract m r.size) ((o ++ r.extract 0 m) ++ e) (by rw [ext_size _ _ _ (Nat.le_refl _)]; omega) (by omega) (by rw [app_size, app_size, z1, ext_size _ _ _ (Nat.le_refl _)]; omega)
          | false =>
            refine Ev.neg (by decide) ?_
            have hx : Ev (fun k => spec_nextBlank.f k r (m : Int)) (fb r (r.size - m) m) := by
              unfold spec_nextBlank.f
              exact nextBlank_ev r (by omega) (r.size - m) m (by omega)
            refine Ev.bind hx ?_
            rcases fb_range r (r.size - m) m (by omega) with hF | ⟨j, hF, hj1, hj2⟩
            · have hv : wst m e false r = (r, r.size) := by unfold wst; rw [if_neg c1, hK, if_neg (by decide), if_neg (by decide), hF, if_pos (by decide)]
              rw [hF, hv]
              refine Ev.pos (by decide) (Ev.pos (by omega) ?_)
              show Ev _ (o ++ (r ++ wra m e false n (r.extract r.size r.size)))
              rw [ext_none, wr_nil, app_nil]
              exact Ev.ok _
            · have hv : wst m e false r = (r.extract 0 j ++ e, j + 1) := by unfold wst; rw [if_neg c1, hK, if_neg (by decide), if_neg (by decide), hF, if_neg (by omega)]; rfl
              rw [hF, hv]
              have e1 : ((j : Int)).toNat = j := by omega
              have e2 : wrap64 ((j : Int) + 1) = ((j + 1 : Nat) : Int) := by rw [w64_in (by omega) (by omega)]; omega
              have e3 : (((j + 1 : Nat) : Int)).toNat = j + 1 := by omega
              have z1 : (r.extract 0 j).size = j := by rw [ext_size _ _ _ (by omega)]; omega
              refine Ev.neg (by omega) (Ev.pos (by omega) (Ev.pos (by omega) (Ev.pos (by rw [e1, z1]; omega) (Ev.pos (by rw [e1, app_size, z1]; omega) (Ev.pos (by rw [e2]; omega) (Ev.pos (by rw [e2]; omega) ?_))))))
              rw [e2, e1, e3, ← app_assoc, ← app_assoc]
              exact ih (r.extract (j + 1) r.size) ((o ++ r.extract 0 j) ++ e) (by rw [ext_size _ _ _ (Nat.le_refl _)]; omega) (by omega) (by rw [app_size, app_size, z1, ext_size _ _ _ (Nat.le_refl _)]; omega)
        · have hv : wst m e cut r = (r.extract 0 i ++ e, i + 1) := by unfold wst; rw [if_neg c1, hK, if_pos (by omega)]; rfl
          rw [hK, hv]
          have e1 : ((i : Int)).toNat = i := by omega
          have e2 : wrap64 ((i : Int) + 1) = ((i + 1 : Nat) : Int) := by rw [w64_in (by omega) (by omega)]; omega
          have e3 : (((i + 1 : Nat) : Int)).toNat = i + 1 := by omega
          have z1 : (r.extract 0 i).size = i := by rw [ext_size _ _ _ (by omega)]; omega
          refine Ev.pos (by omega) (Ev.pos (by omega) (Ev.pos (by omega) (Ev.pos (by rw [e1, z1]; omega) (Ev.pos (by rw [e1, app_size, z1]; omega) (Ev.pos (by rw [e2]; omega) (Ev.pos (by rw [e2]; omega) ?_))))))
          rw [e2, e1, e3, ← app_assoc, ← app_assoc]
          exact ih (r.extract (i + 1) r.size) ((o ++ r.extract 0 i) ++ e) (by rw [ext_size _ _ _ (Nat.le_refl _)]; omega) (by omega) (by rw [app_size, app_size, z1, ext_size _ _ _ (Nat.le_refl _)]; omega)
    · have hwr : wra m e cut (n + 1) r = r := by
        show (if m < r.size then _ else _) = _
        rw [if_neg c]
      rw [hwr]
      refine Ev.neg (by omega) (Ev.pos (by omega) ?_)
      exact Ev.ok _
/-- The width and the line end that count. -/
def wideOf (a : Int) : Nat := if a < 1 then 1 else a.toNat
def endOf (e : ByteArray) : ByteArray := if e.size = 0 then ⟨#[10]⟩ else e
theorem nil_of_size {e : ByteArray} (h : e.size = 0) : e = ⟨#[]⟩ := by
  apply ba_ext
  exact List.eq_nil_of_length_eq_zero (by rw [size_list]; exact h)
theorem wrapped_f (s : ByteArray) (a : Int) (e : ByteArray) (cut : Bool) (hs : s.size ≤ 500) (ha : a ≤ 1000000) (he : e.size ≤ 20) : Ev (fun k => spec_Wrapped.f k s a e cut) (wra (wideOf a) (endOf e) cut s.size s) := by
  have hw : mx a 1 = ((wideOf a : Nat) : Int) := by unfold mx wideOf; by_cases h : a < 1; rw [if_pos h, if_pos h]; rfl; rw [if_neg h, if_neg h]; omega
  have hw1 : 1 ≤ wideOf a := by unfold wideOf; split <;> omega
  unfold spec_Wrapped.f
  rw [hw]
  have key : ∀ e' : ByteArray, e'.size ≤ 20 → Ev (fun k => spec_Wrapped.j0 k s ((wideOf a : Nat) : Int) e' cut) (wra (wideOf a) e' cut s.size s) := by
    intro e' h'
    refine Ev.step (fun k => by rw [spec_Wrapped.j0]) ?_
    have := wrapped_ev (wideOf a) e' cut hw1 h' s.size s ⟨#[]⟩ (Nat.le_refl _) hs (by show 0 + _ ≤ _; omega)
    rw [nil_app] at this
    exact this
  by_cases c : e.size = 0
  · have h0 : e = ⟨#[]⟩ := nil_of_size c
    have h1 : endOf e = ⟨#[10]⟩ := by unfold endOf; rw [if_pos c]
    rw [h1]
    refine Ev.pos (by rw [h0, ByteArray.toList_eq]) (key _ (by decide))
  · have h1 : endOf e = e := by unfold endOf; rw [if_neg c]
    rw [h1]
    refine Ev.neg (fun h => c ?_) (key _ he)
    rw [← size_list, ← ByteArray.toList_eq, h]
    rfl
theorem wrapped_call (s : ByteArray) (a : Int) (e : ByteArray) (cut : Bool) (hs : s.size ≤ 500) (ha : a ≤ 1000000) (he : e.size ≤ 20) (w : World) :
    Calls Tryd.prog 16 #[.string s, .int .i64 a, .string e, .bool cut] w fun e' w' => e' = .returned (.string (wra (wideOf a) (endOf e) cut s.size s)) ∧ Below w.heap.size w w' := by
  obtain ⟨K, hK⟩ := wrapped_f s a e cut hs ha he
  exact spec_Wrapped.calls K s a e cut _ w (hK K (Nat.le_refl _))
/-! ### from a place on -/
theorem wr_at {m n at_ : Nat} {e s : ByteArray} {cut : Bool} (c : at_ + m < s.size) (h : at_ + (wst m e cut (s.extract at_ s.size)).2 ≤ s.size) : wra m e cut (n + 1) (s.extract at_ s.size) = (wst m e cut (s.extract at_ s.size)).1 ++ wra m e cut n (s.extract (at_ + (wst m e cut (s.extract at_ s.size)).2) s.size) := by
  have hz : (s.extract at_ s.size).size = s.size - at_ := ext_size _ _ _ (Nat.le_refl _)
  show (if m < (s.extract at_ s.size).size then _ else _) = _
  rw [if_pos (by omega), ext_ext s at_ _ h]
theorem wst_A {m at_ : Nat} {e s : ByteArray} {cut : Bool} (c : at_ < s.size) (h : bt s (at_ : Int) = 32) : wst m e cut (s.extract at_ s.size) = (⟨#[]⟩, 1) := by
  unfold wst
  rw [if_pos]
  have := bt_ext s at_ s.size 0 (by omega)
  rw [show ((0 : Nat) : Int) = 0 from rfl] at this
  rw [this]
  exact h
theorem last_at {m at_ : Nat} {s : ByteArray} (c : at_ + m < s.size) : Lib.lastIndexByte (s.extract at_ (m + at_ + 1)) 32 = Lib.lastIdx (s.extract at_ s.size) 32 (m + 1) := by
  unfold Lib.lastIndexByte
  have h1 : (s.extract at_ (m + at_ + 1)).size = m + 1 := by rw [ext_size _ _ _ (by omega)]; omega
  rw [h1]
  exact lastIdx_ext s at_ _ _ (by omega) (Nat.le_refl _) 32 (m + 1) (by omega) (by omega)
theorem wst_rest {m at_ : Nat} {e s : ByteArray} {cut : Bool} (c : at_ + m < s.size) (h : ¬ bt s (at_ : Int) = 32) :
    (∃ i : Nat, i ≤ m ∧ Lib.lastIndexByte (s.extract at_ (m + at_ + 1)) 32 = i ∧ wst m e cut (s.extract at_ s.size) = (s.extract at_ (at_ + i) ++ e, i + 1)) ∨
    (Lib.lastIndexByte (s.extract at_ (m + at_ + 1)) 32 = -1 ∧ (cut = true → wst m e cut (s.extract at_ s.size) = (s.extract at_ (at_ + m) ++ e, m)) ∧
      (cut = false → (fb (s.extract (m + at_) s.size) (s.size - (m + at_)) 0 = -1 ∧ wst m e cut (s.extract at_ s.size) = (s.extract at_ s.size, s.size - at_)) ∨
        ∃ i : Nat, fb (s.extract (m + at_) s.size) (s.size - (m + at_)) 0 = i ∧ i + m + at_ < s.size ∧ wst m e cut (s.extract at_ s.size) = (s.extract at_ (i + m + at_) ++ e, i + m + 1))) := by
  have hz : (s.extract at_ s.size).size = s.size - at_ := ext_size _ _ _ (Nat.le_refl _)
  have hb0 : ¬ bt (s.extract at_ s.size) 0 = 32 := by
    have := bt_ext s at_ s.size 0 (by omega)
    rw [show ((0 : Nat) : Int) = 0 from rfl] at this
    rw [this]
    exact h
  rw [last_at c]
  rcases lastIdx_range (s.extract at_ s.size) (m + 1) with hK | ⟨i, hi, hK⟩
  · refine .inr ⟨hK, ?_, ?_⟩
    · intro hc
      unfold wst
      rw [if_neg hb0, hK, if_neg (by omega), if_pos hc, ext_ext0 s at_ m (by omega)]
    · intro hc
      have hx := fb_ext (s.extract at_ s.size) m (s.size - (m + at_)) 0 (by rw [hz]; omega)
      rw [ext_ext s at_ m (by omega), show at_ + m = m + at_ by omega, show m + 0 = m by omega] at hx
      have hd : (s.extract at_ s.size).size - m = s.size - (m + at_) := by rw [hz]; omega
      rcases hx with ⟨h1, h2⟩ | ⟨i, h1, h2, h3⟩
      · refine .inl ⟨h1, ?_⟩
        unfold wst
        rw [if_neg hb0, hK, if_neg (by omega), if_neg (by rw [hc]; decide), hd, h2, if_pos (by decide), hz]
      · refine .inr ⟨i, h1, by rw [hz] at h3; omega, ?_⟩
        unfold wst
        rw [if_neg hb0, hK, if_neg (by omega), if_neg (by rw [hc]; decide), hd, h2, if_neg (by omega), Int.toNat_natCast, ext_ext0 s at_ (m + i) (by rw [hz] at h3; omega)]
        rw [show at_ + (m + i) = i + m + at_ by omega, show m + i + 1 = i + m + 1 by omega]
  · refine .inl ⟨i, by omega, hK, ?_⟩
    unfold wst
    rw [if_neg hb0, hK, if_pos (by omega), Int.toNat_natCast, ext_ext0 s at_ i (by omega)]
end Go.Proofs.YtjpibaehpmkdmaaDoor.P
