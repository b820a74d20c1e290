/- A clean path is clean, and a path behind another one is clean by their clean forms, for every two paths. Nothing is assumed but what every Go string fulfils. -/
import Derived.Test.YtfnogloefimeiaaPx15
import Derived.Lib.JoinSame2
namespace Go.Proofs.Ytfnogloefimeiaa.Pure
open Go.RowKit Go.Proofs.Ytfnogloefimeiaa.P Go.Proofs.YtfnogloefimeiaaW.PrintWords Go.Proofs.YtfnogloefimeiaaW.PrintLast
open Go.Lib.Pa

/-- The elements kept, the last first: going through them anew keeps them all. -/
def kept (ro : Bool) (st : List (List UInt8)) : Prop := st.reverse.foldl (cleanStep ro) [] = st ∧ ∀ e ∈ st, e ≠ [] ∧ e ≠ [46] ∧ 47 ∉ e

theorem els_no47 : ∀ l : List UInt8, ∀ e ∈ els l, 47 ∉ e
  | [], e, he => by simp [els] at he; subst he; simp
  | c :: t, e, he => by
    have ih := els_no47 t
    by_cases hc : c = 47
    · subst hc
      rw [els_slash] at he
      rcases List.mem_cons.1 he with rfl | he
      · simp
      · exact ih e he
    · rw [els, if_neg hc] at he
      obtain ⟨y, r, hy⟩ := els_ne t
      rw [hy] at he ih
      rcases List.mem_cons.1 he with rfl | he
      · have := ih y (by simp)
        simp only [List.mem_cons, not_or]
        exact ⟨fun h => hc h.symm, this⟩
      · exact ih e (by simp [he])

theorem kept_step {ro : Bool} {st : List (List UInt8)} {e : List UInt8} (h : kept ro st) (he : 47 ∉ e) : kept ro (cleanStep ro st e) := by
  obtain ⟨h1, h2⟩ := h
  have push : ∀ x : List UInt8, x ≠ [] → x ≠ [46] → 47 ∉ x → cleanStep ro st x = x :: st → kept ro (x :: st) := by
    intro x hx0 hx1 hx2 hx
    refine ⟨by rw [List.reverse_cons, List.foldl_append, h1]; exact hx, ?_⟩
    intro y hy
    rcases List.mem_cons.1 hy with rfl | hy
    · exact ⟨hx0, hx1, hx2⟩
    · exact h2 y hy
  by_cases h0 : e = [] ∨ e = [46]
  · rw [cleanStep.eq_def, if_pos h0]; exact ⟨h1, h2⟩
  have h0' := not_or.1 h0
  by_cases hd : e = [46, 46]
  · cases st with
    | nil =>
      cases ro with
      | true => rw [cleanStep.eq_def, if_neg h0, if_pos hd]; exact ⟨h1, h2⟩
      | false =>
        have : cleanStep false [] e = [e] := by rw [cleanStep.eq_def, if_neg h0, if_pos hd]; rfl
        rw [this]
        exact push e h0'.1 h0'.2 he this
    | cons x r =>
      by_cases hx : x = [46, 46]
      · have : cleanStep ro (x :: r) e = e :: x :: r := by rw [cleanStep.eq_def, if_neg h0, if_pos hd]; exact if_pos hx
        rw [this]
        exact push e h0'.1 h0'.2 he this
      · have : cleanStep ro (x :: r) e = r := by rw [cleanStep.eq_def, if_neg h0, if_pos hd]; exact if_neg hx
        rw [this]
        refine ⟨?_, fun y hy => h2 y (List.mem_cons_of_mem _ hy)⟩
        rw [List.reverse_cons, List.foldl_append] at h1
        have hxx := h2 x (by simp)
        rw [List.foldl_cons, List.foldl_nil, step_elem ro _ x hxx.1 hxx.2.1 hx] at h1
        injection h1
  · have : cleanStep ro st e = e :: st := step_elem ro st e h0'.1 h0'.2 hd
    rw [this]
    exact push e h0'.1 h0'.2 he this

theorem kept_fold (ro : Bool) : ∀ (l st : List (List UInt8)), kept ro st → (∀ e ∈ l, 47 ∉ e) → kept ro (l.foldl (cleanStep ro) st)
  | [], _, h, _ => h
  | e :: l, st, h, hl => by
    rw [List.foldl_cons]
    exact kept_fold ro l _ (kept_step h (hl e (by simp))) (fun y hy => hl y (by simp [hy]))

theorem kept_els (ro : Bool) (l : List UInt8) : kept ro ((els l).foldl (cleanStep ro) []) :=
  kept_fold ro _ _ ⟨rfl, by simp⟩ (els_no47 l)

theorem els_one {e : List UInt8} (h : 47 ∉ e) : els e = [e] := by
  have := els_elem e [] h (Or.inl rfl)
  rw [List.append_nil] at this
  rw [this]; rfl

theorem els_clean : ∀ (Y : List (List UInt8)), Y ≠ [] → (∀ e ∈ Y, 47 ∉ e) → els (([47] : List UInt8).intercalate Y) = Y
  | [], h, _ => absurd rfl h
  | y :: Y, _, h => by
    rw [els_J]
    have : ∀ Z : List (List UInt8), (∀ e ∈ Z, 47 ∉ e) → Z.flatMap els = Z := by
      intro Z
      induction Z with
      | nil => intro _; rfl
      | cons z Z ih =>
        intro hz
        rw [List.flatMap_cons, els_one (hz z (by simp)), ih (fun e he => hz e (by simp [he]))]
        rfl
    exact this _ h

theorem els_nil : els [] = [[]] := rfl

/-- What is clean, gone through anew: the same elements. -/
theorem again {ro : Bool} {st : List (List UInt8)} (h : kept ro st) : (els (([47] : List UInt8).intercalate st.reverse)).foldl (cleanStep ro) [] = st := by
  by_cases hs : st = []
  · subst hs
    show (els []).foldl (cleanStep ro) [] = []
    rw [els_nil, List.foldl_cons, List.foldl_nil, step_nil]
  · rw [els_clean _ (by simpa using hs) (fun e he => (h.2 e (by simpa using he)).2.2)]
    exact h.1

theorem body_nil {ro : Bool} {st : List (List UInt8)} (h : kept ro st) : ([47] : List UInt8).intercalate st.reverse = [] ↔ st = [] := by
  constructor
  · intro h0
    cases hr : st.reverse with
    | nil => simpa using hr
    | cons y Y =>
      rw [hr] at h0
      have := (J_head y Y (h.2 y (by rw [← List.mem_reverse, hr]; simp)).1).2
      exact absurd h0 this
  · rintro rfl; rfl

theorem body_head {ro : Bool} {st : List (List UInt8)} (h : kept ro st) : ((([47] : List UInt8).intercalate st.reverse).head? == some 47) = false := by
  cases hr : st.reverse with
  | nil => rfl
  | cons y Y =>
    have hy := h.2 y (by rw [← List.mem_reverse, hr]; simp)
    rw [(J_head y Y hy.1).1]
    cases y with
    | nil => exact absurd rfl hy.1
    | cons c t =>
      rw [beq_eq_false_iff_ne]
      intro hc
      have : c = 47 := by simpa using hc
      exact hy.2.2 (by simp [this])

/-- What a clean path is: whether it begins with a slash, its elements, and that it is not empty. -/
theorem clean_is (l : List UInt8) (hne : l ≠ []) : cleanEls l ≠ [] ∧ ((cleanEls l).head? == some 47) = (l.head? == some 47) ∧
    (els (cleanEls l)).foldl (cleanStep (l.head? == some 47)) [] = (els l).foldl (cleanStep (l.head? == some 47)) [] := by
  cases hro : (l.head? == some 47) with
  | true =>
    have hk := kept_els true l
    rw [cleanEls_abs l hne hro]
    refine ⟨by simp, by simp, ?_⟩
    rw [els_slash, List.foldl_cons, step_nil, again hk]
  | false =>
    have hk := kept_els false l
    rw [cleanEls_rel l hne hro]
    by_cases hb : ([47] : List UInt8).intercalate ((els l).foldl (cleanStep false) []).reverse = []
    · rw [if_pos hb]
      refine ⟨by simp, by decide, ?_⟩
      rw [(body_nil hk).1 hb]
      decide
    · rw [if_neg hb]
      exact ⟨hb, body_head hk, again hk⟩

theorem clean_same (l l' : List UInt8) (hne : l ≠ []) (hne' : l' ≠ []) (hh : (l.head? == some 47) = (l'.head? == some 47))
    (hf : (els l).foldl (cleanStep (l.head? == some 47)) [] = (els l').foldl (cleanStep (l.head? == some 47)) []) : cleanEls l = cleanEls l' := by
  cases hro : (l.head? == some 47) with
  | true =>
    rw [hro] at hh hf
    rw [cleanEls_abs l hne hro, cleanEls_abs l' hne' hh.symm, hf]
  | false =>
    rw [hro] at hh hf
    rw [cleanEls_rel l hne hro, cleanEls_rel l' hne' hh.symm, hf]

theorem clean_twice (l : List UInt8) (hne : l ≠ []) : cleanEls (cleanEls l) = cleanEls l := by
  obtain ⟨h1, h2, h3⟩ := clean_is l hne
  exact clean_same _ _ h1 hne h2 (by rw [h2]; exact h3)

theorem clean_behind (a b : List UInt8) (ha : a ≠ []) : cleanEls (a ++ 47 :: b) = cleanEls (cleanEls a ++ 47 :: b) := by
  obtain ⟨h1, h2, h3⟩ := clean_is a ha
  have hd : ∀ c : List UInt8, c ≠ [] → ((c ++ 47 :: b).head? == some 47) = (c.head? == some 47) := by
    intro c hc
    cases c with
    | nil => exact absurd rfl hc
    | cons x t => rfl
  refine clean_same _ _ (by simp) (by simp) ?_ ?_
  · rw [hd a ha, hd _ h1, h2]
  · rw [hd a ha, els_app, els_app, List.foldl_append, List.foldl_append, h3]

/-- The signs of elements, with one more for each. -/
def sum1 : List (List UInt8) → Nat
  | [] => 0
  | e :: l => e.length + 1 + sum1 l
theorem sum1_append : ∀ a b : List (List UInt8), sum1 (a ++ b) = sum1 a + sum1 b
  | [], b => by simp [sum1]
  | e :: a, b => by rw [List.cons_append, sum1, sum1, sum1_append a b]; omega
theorem sum1_reverse : ∀ a : List (List UInt8), sum1 a.reverse = sum1 a
  | [] => rfl
  | e :: a => by rw [List.reverse_cons, sum1_append, sum1_reverse a, sum1, sum1, sum1]; omega
theorem sum1_els : ∀ l : List UInt8, sum1 (els l) = l.length + 1
  | [] => rfl
  | c :: t => by
    have ih := sum1_els t
    by_cases hc : c = 47
    · subst hc
      rw [els_slash, sum1, ih, List.length_cons, List.length_nil]; omega
    · obtain ⟨y, r, hy⟩ := els_ne t
      rw [els, if_neg hc, hy]
      rw [hy, sum1] at ih
      show sum1 ((c :: y) :: r) = _
      rw [sum1, List.length_cons, List.length_cons]; omega
theorem sum1_step (ro : Bool) (st : List (List UInt8)) (e : List UInt8) : sum1 (cleanStep ro st e) ≤ sum1 st + (e.length + 1) := by
  unfold cleanStep
  split
  · omega
  · split
    · cases st with
      | nil => cases ro <;> simp [sum1]
      | cons x r =>
        show sum1 (if x = [46, 46] then e :: x :: r else r) ≤ _
        split
        · simp only [sum1]; omega
        · simp only [sum1]; omega
    · simp only [sum1]; omega
theorem sum1_fold (ro : Bool) : ∀ (l st : List (List UInt8)), sum1 (l.foldl (cleanStep ro) st) ≤ sum1 st + sum1 l
  | [], st => by simp [sum1]
  | e :: l, st => by
    rw [List.foldl_cons]
    have h1 := sum1_fold ro l (cleanStep ro st e)
    have h2 := sum1_step ro st e
    rw [sum1]; omega
theorem inter_len : ∀ Y : List (List UInt8), (([47] : List UInt8).intercalate Y).length ≤ sum1 Y
  | [] => by simp [sum1]
  | [y] => by rw [J_one, sum1]; omega
  | y :: z :: Y => by
    rw [J_cons, List.length_append, List.length_cons, sum1]
    have := inter_len (z :: Y)
    omega
theorem clean_len (l : List UInt8) : (cleanEls l).length ≤ l.length + 2 := by
  by_cases hne : l = []
  · subst hne; decide
  have hb : ∀ ro, (([47] : List UInt8).intercalate ((els l).foldl (cleanStep ro) []).reverse).length ≤ l.length + 1 := by
    intro ro
    have h1 := inter_len ((els l).foldl (cleanStep ro) []).reverse
    have h2 := sum1_fold ro (els l) []
    rw [sum1_reverse] at h1
    rw [sum1_els, sum1] at h2
    omega
  cases hro : (l.head? == some 47) with
  | true => rw [cleanEls_abs l hne hro, List.length_cons]; have := hb true; omega
  | false =>
    rw [cleanEls_rel l hne hro]
    split
    · simp
    · have := hb false; omega

def cl (s : ByteArray) : ByteArray := ⟨(cleanEls s.data.toList).toArray⟩
theorem cl_list (s : ByteArray) : (cl s).data.toList = cleanEls s.data.toList := by simp [cl]
theorem cl_size (s : ByteArray) : (cl s).size ≤ s.size + 2 := by
  rw [← size_list, ← size_list, cl_list]; exact clean_len _
theorem clean_tells (s : ByteArray) (h : s.size ≤ 1000000) : impl_Clean.f s = some (cl s) := by
  unfold impl_Clean.f sprig_Clean.f sprig_clean.f path_Clean.f
  rw [if_pos (by omega)]
  rfl

theorem FnCleanTwice : laws_FnCleanTwice.Pure := by
  intro a b ha hb
  refine Ev.rounds (g := fun k => laws_FnCleanTwice.f k a b) ?_
  unfold laws_FnCleanTwice.f
  have far : Ev (fun k => laws_FnCleanTwice.j0 k a b true) true := Ev.step (fun k => by rw [laws_FnCleanTwice.j0]) (Ev.pos rfl (Ev.ok _))
  have far1 : Ev (fun k => laws_FnCleanTwice.j1 k a b true) true := Ev.step (fun k => by rw [laws_FnCleanTwice.j1]) (Ev.pos rfl (Ev.ok _))
  by_cases h1 : (a.size : Int) > 2147483647
  · exact Ev.pos h1 far
  refine Ev.neg h1 ?_
  by_cases h2 : (b.size : Int) > 2147483647
  · rw [decide_eq_true h2]; exact far
  rw [decide_eq_false h2]
  refine Ev.step (fun k => by rw [laws_FnCleanTwice.j0]) (Ev.neg Bool.false_ne_true ?_)
  by_cases h3 : (a.size : Int) > 500
  · exact Ev.pos h3 far1
  refine Ev.neg h3 ?_
  by_cases h4 : (b.size : Int) > 500
  · rw [decide_eq_true h4]; exact far1
  rw [decide_eq_false h4]
  have z1 : (⟨#[47]⟩ : ByteArray).size = 1 := rfl
  have l1 : (⟨#[47]⟩ : ByteArray).data.toList = [47] := rfl
  have sz : ∀ x : ByteArray, (x ++ (⟨#[47]⟩ : ByteArray)).size = x.size + 1 := fun x => by rw [ByteArray.size_append, z1]
  have sz2 : ∀ x y : ByteArray, (x ++ (⟨#[47]⟩ : ByteArray) ++ y).size = x.size + 1 + y.size := fun x y => by rw [ByteArray.size_append, sz]
  have ls : ∀ x y : ByteArray, (x ++ (⟨#[47]⟩ : ByteArray) ++ y).data.toList = x.data.toList ++ 47 :: y.data.toList := fun x y => by
    rw [append_list, append_list, l1]; simp
  have c1 := cl_size (a ++ (⟨#[47]⟩ : ByteArray) ++ b)
  rw [sz2] at c1
  have c2 := cl_size a
  have e1 := clean_tells (a ++ (⟨#[47]⟩ : ByteArray) ++ b) (by rw [sz2]; omega)
  have e2 := clean_tells (cl (a ++ (⟨#[47]⟩ : ByteArray) ++ b)) (by omega)
  have e3 := clean_tells a (by omega)
  have e4 := clean_tells (cl a ++ (⟨#[47]⟩ : ByteArray) ++ b) (by rw [sz2]; omega)
  have ne1 : (a ++ (⟨#[47]⟩ : ByteArray) ++ b).data.toList ≠ [] := by rw [ls]; simp
  refine Ev.step (fun k => by rw [laws_FnCleanTwice.j1, e1]) (Ev.neg Bool.false_ne_true (Ev.pos (by omega) (Ev.pos (by rw [sz]; omega) (Ev.bind (Ev.ok _) ?_))))
  refine Ev.neg (by rw [ByteArray.toList_eq, cl_list]; exact (clean_is _ ne1).1) ?_
  refine Ev.bind (by rw [e2]; exact Ev.ok _) (Ev.pos (by rw [ByteArray.toList_eq, ByteArray.toList_eq, cl_list, cl_list]; exact clean_twice _ ne1) ?_)
  by_cases h5 : a.toList = ([] : List UInt8)
  · exact Ev.pos h5 (Ev.ok _)
  refine Ev.neg h5 (Ev.bind (by rw [e3]; exact Ev.ok _) (Ev.pos (by omega) (Ev.pos (by rw [sz]; omega) (Ev.bind (by rw [e4]; exact Ev.ok _) (Ev.eq ?_ (Ev.ok _))))))
  rw [beq_iff_eq, ByteArray.toList_eq, ByteArray.toList_eq, cl_list, cl_list, ls, ls, cl_list]
  exact clean_behind _ _ (by rwa [ByteArray.toList_eq] at h5)
end Go.Proofs.Ytfnogloefimeiaa.Pure
