/- What spec.right takes for right has no NaN in it. -/
import Derived.Test.YtffkinonnkbcpaaEq3
import Derived.Test.YtffkinonnkbcpaaA1
set_option linter.unusedVariables false
set_option linter.unusedSimpArgs false
namespace Go.Proofs.Ytffkinonnkbcpaa.P
open Go.RowKit Go.Proofs.YtffkinonnkbcpaaW.PrintWords Go.Proofs.YtffkinonnkbcpaaW.PrintLast Go.Proofs.YtffkinonnkbcpaaW.PrintMore

theorem fin_of {a : Nat} (h : ¬ FloatKind.f64.format.sub a a = none) : FloatKind.f64.format.order a a = some Ordering.eq := by
  unfold Ieee.Format.order
  unfold Ieee.Format.sub at h
  cases hd : FloatKind.f64.format.read a with
  | nan s t => rw [hd] at h; exact absurd rfl h
  | infinity s => cases s <;> rfl
  | number s m i =>
    show some (compare _ _) = _
    simp
def TailF (d : Nat) (x : S31) : Prop := ∀ n, d = n + 1 → ∀ j, j < x.f5.length → finN n (rd_T31 x.f5 (j : Int))
theorem fin_loop {n : Nat} (hn : n ≤ 1000) (ih : ∀ x : S31, Tot (fun k => spec_right.f k x.f0 x.f1 x.f2 x.f3 x.f4 x.f5 (n : Int)) (fun r => r = true → finN n x)) (x : S31) (h7 : x.f0 = 7 → x.f4.length = x.f5.length) (hl : x.f5.length ≤ 300) :
    ∀ m i, x.f5.length - i = m → Tot (fun k => spec_right.l0 k ((n + 1 : Nat) : Int) (i : Int) x.f0 x.f1 x.f2 x.f3 x.f4 x.f5) (fun r => r = true → ∀ j, i ≤ j → j < x.f5.length → finN n (rd_T31 x.f5 (j : Int))) := by
  have hw : wrap64 (((n + 1 : Nat) : Int) - 1) = (n : Int) := by rw [wrap_of (by omega) (by omega)]; omega
  intro m
  induction m with
  | zero =>
    intro i hm
    refine Tot.step (fun k => by rw [spec_right.l0]) ?_
    exact Tot.ite (fun h => absurd h (by omega)) (fun _ => Tot.ret (fun _ j h1 h2 => absurd h2 (by omega)))
  | succ m ihm =>
    intro i hm
    have h6 : ∀ b : Bool, (b = false → finN n (rd_T31 x.f5 (i : Int))) → Tot (fun k => spec_right.j6 k ((n + 1 : Nat) : Int) (i : Int) b x.f0 x.f1 x.f2 x.f3 x.f4 x.f5) (fun r => r = true → ∀ j, i ≤ j → j < x.f5.length → finN n (rd_T31 x.f5 (j : Int))) := by
      intro b hb
      refine Tot.step (fun k => by rw [spec_right.j6]) ?_
      refine Tot.ite (fun _ => Tot.ret (fun h => by cases h)) (fun h => ?_)
      rw [wrap_of (x := (i : Int) + 1) (by omega) (by omega)]
      refine (ihm (i + 1) (by omega)).mono (fun r hr ht j h1 h2 => ?_)
      by_cases hji : j = i
      · subst hji
        exact hb (by simpa using h)
      · exact hr ht j (by omega) h2
    refine Tot.step (fun k => by rw [spec_right.l0]) ?_
    refine Tot.ite (fun _ => Tot.ite (fun _ => ?_) (fun h => absurd h (by omega))) (fun h => absurd h (by omega))
    rw [hw]
    refine Tot.bind (ih _) (fun r hr => ?_)
    refine Tot.ite (fun ht => ?_) (fun _ => h6 true (fun h => by cases h))
    refine Tot.ite (fun h0 => Tot.ite (fun h1 => ?_) (fun h => absurd h (by rw [h7 h0]; omega))) (fun h0 => h6 false (fun _ => hr ht))
    refine Tot.ite (fun _ => h6 true (fun h => by cases h)) (fun hs => Tot.ite (fun hp => ?_) (fun hp => h6 false (fun _ => hr ht)))
    have hw1 : wrap64 ((i : Int) - 1) = ((i - 1 : Nat) : Int) := by rw [wrap_of (by omega) (by omega)]; omega
    rw [hw1]
    refine Tot.ite (fun _ => Tot.ite (fun _ => ?_) (fun h => absurd h (by omega))) (fun h => absurd h (by omega))
    exact h6 _ (fun hb => hr ht)
theorem fin_j4 {d : Nat} (hd : d ≤ 1000) (ih : ∀ n, d = n + 1 → ∀ x : S31, Tot (fun k => spec_right.f k x.f0 x.f1 x.f2 x.f3 x.f4 x.f5 (n : Int)) (fun r => r = true → finN n x)) (x : S31) (hd0 : d ≠ 0) (hl : x.f5.length ≤ 300) (b : Bool) (hb : b = false → (x.f0 = 7 → x.f4.length = x.f5.length) ∧ (x.f0 ≠ 7 → x.f4 = [])) :
    Tot (fun k => spec_right.j4 k (d : Int) b x.f0 x.f1 x.f2 x.f3 x.f4 x.f5) (fun r => r = true → TailF d x) := by
  obtain ⟨n, rfl⟩ : ∃ n, d = n + 1 := ⟨d - 1, by omega⟩
  refine Tot.step (fun k => by rw [spec_right.j4]) ?_
  refine Tot.ite (fun _ => Tot.ret (fun h => by cases h)) (fun h => ?_)
  have hbb := hb (by simpa using h)
  exact (fin_loop (by omega) (ih n rfl) x hbb.1 hl _ 0 rfl).mono (fun r hr ht => fun m hm j hj => by
    have : m = n := by omega
    subst this
    exact hr ht j (Nat.zero_le _) hj)
theorem fin_j3 {d : Nat} (hd : d ≤ 1000) (ih : ∀ n, d = n + 1 → ∀ x : S31, Tot (fun k => spec_right.f k x.f0 x.f1 x.f2 x.f3 x.f4 x.f5 (n : Int)) (fun r => r = true → finN n x)) (x : S31) (b : Bool) (p : Prop) (hb : b = false → d ≠ 0 ∧ x.f5.length ≤ 300 ∧ p) :
    Tot (fun k => spec_right.j3 k (d : Int) b x.f0 x.f1 x.f2 x.f3 x.f4 x.f5) (fun r => r = true → TailF d x ∧ d ≠ 0 ∧ x.f5.length ≤ 300 ∧ p) := by
  refine Tot.step (fun k => by rw [spec_right.j3]) ?_
  refine Tot.ite (fun _ => Tot.ret (fun h => by cases h)) (fun h => ?_)
  have hbb := hb (by simpa using h)
  have hp : ∀ b, (b = false → (x.f0 = 7 → x.f4.length = x.f5.length) ∧ (x.f0 ≠ 7 → x.f4 = [])) → Tot (fun k => spec_right.j4 k (d : Int) b x.f0 x.f1 x.f2 x.f3 x.f4 x.f5) (fun r => r = true → TailF d x ∧ d ≠ 0 ∧ x.f5.length ≤ 300 ∧ p) := fun b hb => (fin_j4 hd ih x hbb.1 hbb.2.1 b hb).mono (fun r hr ht => ⟨hr ht, hbb⟩)
  refine Tot.ite (fun h0 => ?_) (fun h0 => ?_)
  · exact hp _ (fun h => ⟨fun _ => by simp at h; omega, fun h7 => absurd h0 h7⟩)
  · refine Tot.ite (fun _ => hp _ (fun h => by cases h)) (fun h1 => hp _ (fun _ => ⟨fun h => absurd h h0, fun _ => List.eq_nil_of_length_eq_zero (by omega)⟩))
def HeadF (x : S31) : Prop := FloatKind.f64.format.order x.f2 x.f2 = some Ordering.eq
theorem fin_j2 {d : Nat} (hd : d ≤ 1000) (ih : ∀ n, d = n + 1 → ∀ x : S31, Tot (fun k => spec_right.f k x.f0 x.f1 x.f2 x.f3 x.f4 x.f5 (n : Int)) (fun r => r = true → finN n x)) (x : S31) (i : Int) (r : Nat) (t : ByteArray) :
    Tot (fun k => spec_right.j2 k (d : Int) x.f0 x.f1 x.f2 x.f3 x.f4 x.f5 x.f0 x.f1 x.f2 x.f3 x.f0 i r t) (fun b => b = true → TailF d x ∧ d ≠ 0 ∧ x.f5.length ≤ 300 ∧ HeadF x) := by
  have hj := fin_j3 hd ih x
  refine Tot.step (fun k => by rw [spec_right.j2]) ?_
  have hB : Tot (fun _ => spec_Bare.f x.f0 x.f1 x.f2 x.f3 ([] : List ByteArray) ([] : List S31) x.f0 i r t ([] : List ByteArray) ([] : List S31)) (fun b => True) := by
    have h := bare_some (⟨x.f0, x.f1, x.f2, x.f3, [], []⟩ : S31) ⟨x.f0, i, r, t, [], []⟩
    exact ⟨0, _, fun _ _ => h, trivial⟩
  refine Tot.bind hB (fun b _ => ?_)
  have h0 : ∀ p, Tot (fun k => spec_right.j3 k (d : Int) true x.f0 x.f1 x.f2 x.f3 x.f4 x.f5) (fun b => b = true → TailF d x ∧ d ≠ 0 ∧ x.f5.length ≤ 300 ∧ p) := fun p => hj true p (fun h => by cases h)
  refine Tot.ite (fun ht => ?_) (fun _ => h0 _)
  refine Tot.ite (fun _ => h0 _) (fun hs => Tot.ite (fun _ => h0 _) (fun hfin => ?_))
  have h1 : x.f5.length ≤ 300 → Tot (fun k => spec_right.j3 k (d : Int) ((d : Int) == 0) x.f0 x.f1 x.f2 x.f3 x.f4 x.f5) (fun b => b = true → TailF d x ∧ d ≠ 0 ∧ x.f5.length ≤ 300 ∧ HeadF x) := fun h2 => hj _ _ (fun hd0 => ⟨(fun h => by rw [h] at hd0; cases hd0), h2, fin_of hfin⟩)
  refine Tot.ite (fun h6 => Tot.ite (fun _ => h0 _) (fun hl => h1 (by omega))) (fun h6 => Tot.ite (fun h7 => Tot.ite (fun _ => h0 _) (fun hl => h1 (by omega))) (fun h7 => Tot.ite (fun _ => h0 _) (fun hl => Tot.ite (fun _ => h0 _) (fun hl2 => h1 (by omega)))))
theorem fin_mk {d : Nat} {x : S31} (hT : TailF d x) (hd0 : d ≠ 0) (hH : HeadF x) : finN d x := by
  obtain ⟨n, rfl⟩ : ∃ n, d = n + 1 := ⟨d - 1, by omega⟩
  exact ⟨fun _ => hH, fun i hi => by simpa [rd_T31] using hT n rfl i hi⟩
theorem fin_j1 {d : Nat} (hd : d ≤ 1000) (ih : ∀ n, d = n + 1 → ∀ x : S31, Tot (fun k => spec_right.f k x.f0 x.f1 x.f2 x.f3 x.f4 x.f5 (n : Int)) (fun r => r = true → finN n x)) (x : S31) (b : Bool) (f1 : Int) :
    Tot (fun k => spec_right.j1 k (d : Int) x.f0 b x.f0 x.f1 x.f2 x.f3 x.f4 x.f5 x.f0 x.f1 x.f2 x.f3 x.f0 0 0 (⟨#[]⟩ : ByteArray)) (fun r => r = true → finN d x) := by
  refine Tot.step (fun k => by rw [spec_right.j1]) ?_
  refine Tot.ite (fun h => ?_) (fun _ => Tot.ite (fun h => ?_) (fun _ => Tot.ite (fun h => ?_) (fun _ => Tot.ret (fun h => by cases h))))
  · exact (fin_j2 hd ih x x.f1 0 ⟨#[]⟩).mono (fun r hr ht => fin_mk (hr ht).1 (hr ht).2.1 (hr ht).2.2.2)
  · exact (fin_j2 hd ih x 0 x.f2 ⟨#[]⟩).mono (fun r hr ht => fin_mk (hr ht).1 (hr ht).2.1 (hr ht).2.2.2)
  · exact (fin_j2 hd ih x 0 0 x.f3).mono (fun r hr ht => fin_mk (hr ht).1 (hr ht).2.1 (hr ht).2.2.2)
theorem fin_j0 {d : Nat} (hd : d ≤ 1000) (ih : ∀ n, d = n + 1 → ∀ x : S31, Tot (fun k => spec_right.f k x.f0 x.f1 x.f2 x.f3 x.f4 x.f5 (n : Int)) (fun r => r = true → finN n x)) (x : S31) (b : Bool) :
    Tot (fun k => spec_right.j0 k (d : Int) x.f0 b x.f0 x.f1 x.f2 x.f3 x.f4 x.f5 x.f0 x.f1 x.f2 x.f3 x.f0 0 0 (⟨#[]⟩ : ByteArray)) (fun r => r = true → finN d x) := by
  refine Tot.step (fun k => by rw [spec_right.j0]) ?_
  refine Tot.ite (fun h => ?_) (fun _ => Tot.ite (fun h => ?_) (fun h1 => Tot.ite (fun h => ?_) (fun h => ?_)))
  · exact (fin_j2 hd ih x 0 0 ⟨#[]⟩).mono (fun r hr ht => fin_mk (hr ht).1 (hr ht).2.1 (hr ht).2.2.2)
  · exact (fin_j2 hd ih x _ 0 ⟨#[]⟩).mono (fun r hr ht => fin_mk (hr ht).1 (hr ht).2.1 (hr ht).2.2.2)
  · exact fin_j1 hd ih x _ 0
  · exact fin_j1 hd ih x _ 0
theorem fin_main {d : Nat} (hd : d ≤ 1000) (ih : ∀ n, d = n + 1 → ∀ x : S31, Tot (fun k => spec_right.f k x.f0 x.f1 x.f2 x.f3 x.f4 x.f5 (n : Int)) (fun r => r = true → finN n x)) (x : S31) : Tot (fun k => spec_right.f k x.f0 x.f1 x.f2 x.f3 x.f4 x.f5 (d : Int)) (fun r => r = true → finN d x) := by
  refine Tot.step (fun k => by rw [spec_right.f]) ?_
  exact Tot.ite (fun h => fin_j0 hd ih x _) (fun _ => Tot.ite (fun h => fin_j0 hd ih x _) (fun _ => fin_j0 hd ih x _))
theorem fin_tot : ∀ (d : Nat) (x : S31), d ≤ 1000 → Tot (fun k => spec_right.f k x.f0 x.f1 x.f2 x.f3 x.f4 x.f5 (d : Int)) (fun r => r = true → finN d x)
  | 0, x, hd => fin_main hd (fun n h => by cases h) x
  | d + 1, x, hd => fin_main hd (fun n h x => by
      have : n = d := by omega
      subst this
      exact fin_tot n x (by omega)) x
theorem AllFin_tot (l : List S31) : Tot (fun k => spec_AllRight.f k l) (fun r => r = true → ∀ i, i < l.length → finN 8 (l.getD i z31)) := by
  have loop : ∀ m i : Nat, l.length - i = m → ∀ left : Int, Tot (fun k => spec_AllRight.l0 k l left (i : Int)) (fun r => r = true → ∀ j, i ≤ j → j < l.length → finN 8 (l.getD j z31)) := by
    intro m
    induction m with
    | zero =>
      intro i hm left
      refine Tot.step (fun k => by rw [spec_AllRight.l0]) ?_
      refine Tot.ite (fun h => absurd h (by omega)) (fun _ => ?_)
      refine Tot.step (fun k => by rw [spec_AllRight.j1]) ?_
      exact Tot.ite (fun h => by cases h) (fun _ => Tot.ret (fun h => fun j h1 h2 => absurd h2 (by omega)))
    | succ m ihm =>
      intro i hm left
      refine Tot.step (fun k => by rw [spec_AllRight.l0]) ?_
      refine Tot.ite (fun _ => ?_) (fun h => absurd h (by omega))
      refine Tot.step (fun k => by rw [spec_AllRight.j1]) ?_
      refine Tot.ite (fun hl => ?_) (fun _ => Tot.ret (fun h => fun j h1 h2 => ?_))
      · have hl60 : (l.length : Int) ≤ 60 := by simpa using hl
        refine Tot.ite (fun _ => Tot.ite (fun _ => ?_) (fun h => absurd h (by omega))) (fun h => absurd h (by omega))
        refine Tot.bind (weigh_tot 8 _ left (by omega)) (fun t _ => ?_)
        refine Tot.ite (fun _ => Tot.ret (fun h => by cases h)) (fun _ => ?_)
        refine Tot.bind (fin_tot 8 _ (by omega)) (fun r hr => ?_)
        refine Tot.ite (fun ht => ?_) (fun _ => Tot.ret (fun h => by cases h))
        rw [wrap_of (x := (i : Int) + 1) (by omega) (by omega)]
        refine (ihm (i + 1) (by omega) t).mono (fun r2 h2 ht2 => fun j h3 h4 => ?_)
        by_cases hji : j = i
        · subst hji
          have := hr ht
          simpa [rd_T31] using this
        · exact (h2 ht2) j (by omega) h4
      · rename_i hc
        exact absurd h (by simpa using hc)
  unfold spec_AllRight.f
  exact (loop _ 0 rfl 300).mono (fun r h ht => fun i hi => (h ht) i (Nat.zero_le _) hi)
theorem Tot.both {α : Type} {f : Nat → Option α} {p q : α → Prop} (h1 : Tot f p) (h2 : Tot f q) : Tot f (fun r => p r ∧ q r) := by
  obtain ⟨k, r, hk, hp⟩ := h1
  obtain ⟨m, s, hm, hq⟩ := h2
  have h := (hk (max k m) (by omega)).symm.trans (hm (max k m) (by omega))
  injection h with h
  subst h
  exact ⟨k, r, hk, hp, hq⟩
theorem AllFin_con (l : List S31) (A : Option Addr) (c : Nat) : ∃ r : Bool, (r = true → l.length ≤ 60 ∧ ∀ i, i < l.length → rightN 8 (l.getD i z31) ∧ finN 8 (l.getD i z31)) ∧ ∀ w, k31.C w A l.length l → l.length ≤ c → Calls Try.prog 6 #[.slice A l.length c] w fun e w' => e = .returned (.bool r) ∧ Below w.heap.size w w' := by
  obtain ⟨k, r, hk, hr, hf⟩ := (AllRight_tot l).both (AllFin_tot l)
  exact ⟨r, fun h => ⟨(hr h).1, fun i hi => ⟨(hr h).2 i hi, hf h i hi⟩⟩, fun w h hc => spec_AllRight.calls k A c l r w h hc (hk k (Nat.le_refl _))⟩
end Go.Proofs.Ytffkinonnkbcpaa.P
