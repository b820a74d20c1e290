/- Whether a text of ASCII is empty, or white space, and another one instead of it: the package answers as the specification. Nothing is assumed but what every Go string fulfils. -/
import Derived.Test.YtmdehalchdgoeaaDoorPx5
import Derived.Test.YtmdehalchdgoeaaDoorP9
namespace Go.Proofs.YtmdehalchdgoeaaDoor.Pure
open Go.RowKit Go.Proofs.YtmdehalchdgoeaaDoor.P Go.Proofs.YtmdehalchdgoeaaDoorW.PrintWords Go.Proofs.YtmdehalchdgoeaaDoorW.PrintLast

theorem space_nat : ∀ n : Fin 256, spec_IsSpace.f (n.val : Int) = some (spaceB (n.val : Int)) := by decide +kernel
theorem space_f (c : Int) (h0 : 0 ≤ c) (h : c ≤ 255) : spec_IsSpace.f c = some (spaceB c) := by
  have := space_nat ⟨c.toNat, by omega⟩
  simp only [Int.toNat_of_nonneg h0] at this
  exact this
theorem cutR (d : Nat) : ∀ xs : List Int, xs.length = d → d ≤ 500 → (∀ x ∈ xs, 0 ≤ x ∧ x < 128) →
    ∃ ys, Ev (fun k => spec_cut_IsSpace.l1 k xs) (runesBytes ys) ∧ (∀ y ∈ ys, y ∈ xs) ∧ (ys = [] ↔ ∀ x ∈ xs, spaceB x = true) := by
  induction d with
  | zero =>
    intro xs hl _ _
    obtain rfl := List.eq_nil_of_length_eq_zero hl
    exact ⟨[], Ev.step (fun k => by rw [spec_cut_IsSpace.l1]) (Ev.neg (by simp) (Ev.ok _)), fun _ h => h, by simp⟩
  | succ d ih =>
    intro xs hl hd hx
    have hw : wrap64 ((xs.length : Int) - 1) = (d : Int) := by rw [w64_in (by omega) (by omega)]; omega
    obtain ⟨l, hlast⟩ : ∃ l, xs = xs.take d ++ [l] := by
      refine ⟨xs[d]'(by omega), ?_⟩
      rw [List.take_append_getElem]
      rw [List.take_of_length_le (by omega)]
    have hm : l ∈ xs := by rw [hlast]; simp
    have hrd : rd xs (d : Int) = l := by
      unfold rd
      rw [hlast, Int.toNat_natCast, List.getD_eq_getElem?_getD, List.getElem?_append_right (by simp; omega)]
      simp
      rw [show d - min d xs.length = 0 by omega]
      rfl
    have hs := space_f l (hx l hm).1 (by have := (hx l hm).2; omega)
    by_cases hsp : spaceB l = true
    · obtain ⟨ys, e, h1, h2⟩ := ih (xs.take d) (by simp; omega) (by omega) (fun x hxm => hx x (List.mem_of_mem_take hxm))
      refine ⟨ys, ?_, fun y hy => List.mem_of_mem_take (h1 y hy), h2.trans ⟨fun h x hxm => ?_, fun h x hxm => h x (List.mem_of_mem_take hxm)⟩⟩
      · refine Ev.step (fun k => by rw [spec_cut_IsSpace.l1, hw, hrd, hs, hsp]) ?_
        refine Ev.pos (by omega) (Ev.pos (by omega) (Ev.pos (by omega) (Ev.bind (Ev.ok _) (Ev.pos rfl (Ev.pos (by omega) ?_)))))
        rw [Int.toNat_natCast]
        exact e
      · rw [hlast] at hxm
        rcases List.mem_append.1 hxm with hxm | hxm
        · exact h x hxm
        · rw [List.mem_singleton.1 hxm]; exact hsp
    · refine ⟨xs, ?_, fun _ h => h, ⟨fun h => ?_, fun h => absurd (h l hm) hsp⟩⟩
      · refine Ev.step (fun k => by rw [spec_cut_IsSpace.l1, hw, hrd, hs]) ?_
        exact Ev.pos (by omega) (Ev.pos (by omega) (Ev.pos (by omega) (Ev.bind (Ev.ok _) (Ev.neg hsp (Ev.ok _)))))
      · rw [h] at hl; simp at hl
theorem cutL (d : Nat) : ∀ xs : List Int, xs.length = d → d ≤ 500 → (∀ x ∈ xs, 0 ≤ x ∧ x < 128) →
    ∃ ys, Ev (fun k => spec_cut_IsSpace.l0 k xs) (runesBytes ys) ∧ (∀ y ∈ ys, y ∈ xs) ∧ (ys = [] ↔ ∀ x ∈ xs, spaceB x = true) := by
  induction d with
  | zero =>
    intro xs hl _ _
    obtain rfl := List.eq_nil_of_length_eq_zero hl
    refine ⟨[], ?_, fun _ h => h, by simp⟩
    refine Ev.step (fun k => by rw [spec_cut_IsSpace.l0]) (Ev.neg (by simp) ?_)
    refine Ev.step (fun k => by rw [spec_cut_IsSpace.j1]) ?_
    exact Ev.step (fun k => by rw [spec_cut_IsSpace.l1]) (Ev.neg (by simp) (Ev.ok _))
  | succ d ih =>
    intro xs hl hd hx
    obtain ⟨c, r, rfl⟩ := List.exists_cons_of_length_eq_add_one hl
    have hrd : rd (c :: r) 0 = c := rfl
    have hs := space_f c (hx c List.mem_cons_self).1 (by have := (hx c List.mem_cons_self).2; omega)
    by_cases hsp : spaceB c = true
    · obtain ⟨ys, e, h1, h2⟩ := ih r (by simpa using hl) (by omega) (fun x hxm => hx x (List.mem_cons_of_mem _ hxm))
      refine ⟨ys, ?_, fun y hy => List.mem_cons_of_mem _ (h1 y hy), h2.trans ⟨fun h x hxm => ?_, fun h x hxm => h x (List.mem_cons_of_mem _ hxm)⟩⟩
      · refine Ev.step (fun k => by rw [spec_cut_IsSpace.l0, hrd, hs, hsp]) ?_
        exact Ev.pos (by simp only [List.length_cons]; omega) (Ev.pos (by simp only [List.length_cons]; omega) (Ev.bind (Ev.ok _) (Ev.pos rfl (Ev.pos (by simp only [List.length_cons]; omega) e))))
      · rcases List.mem_cons.1 hxm with rfl | hxm
        · exact hsp
        · exact h x hxm
    · obtain ⟨ys, e, h1, h2⟩ := cutR (d + 1) (c :: r) hl hd hx
      refine ⟨ys, ?_, h1, h2⟩
      refine Ev.step (fun k => by rw [spec_cut_IsSpace.l0, hrd, hs]) ?_
      refine Ev.pos (by simp only [List.length_cons]; omega) (Ev.pos (by simp only [List.length_cons]; omega) (Ev.bind (Ev.ok _) (Ev.neg hsp ?_)))
      exact Ev.step (fun k => by rw [spec_cut_IsSpace.j1]) e
/-- Is all of it white space? -/
def allSpace (s : ByteArray) : Bool := (nums8 s).all spaceB
theorem spec_blank (s : ByteArray) (h5 : s.size ≤ 500) (ha : ascii s) : Ev (fun k => spec_Blank.f k s) (allSpace s) := by
  have hb : ∀ x ∈ nums8 s, 0 ≤ x ∧ x < 128 := ascii_mem ha
  obtain ⟨ys, e, h1, h2⟩ := cutL (nums8 s).length (nums8 s) rfl (by rw [nums8_length]; exact h5) hb
  have hf : ∃ b, spec_Points.f s = some (nums8 s, b) := by
    unfold spec_Points.f
    rw [if_pos (by omega), runesOf_ascii ha]
    simp only [Option.bind_some]
    split
    · unfold spec_replaced.f
      rw [if_pos (by omega)]
      exact ⟨_, rfl⟩
    · exact ⟨_, rfl⟩
  obtain ⟨b, hf⟩ := hf
  unfold spec_Blank.f spec_Trim.f spec_cut_IsSpace.f
  rw [hf]
  refine Ev.bind (Ev.bind (Ev.bind (Ev.ok _) e) (Ev.ok _)) (Ev.eq ?_ (Ev.ok _))
  rw [ByteArray.toList_eq, runesBytes_ascii (fun y hy => hb y (h1 y hy)), Bool.eq_iff_iff, beq_iff_eq, List.map_eq_nil_iff, h2]
  unfold allSpace
  rw [List.all_eq_true]
theorem blank_loop (s : ByteArray) (h5 : s.size ≤ 500) (d : Nat) : ∀ i : Nat, i ≤ s.size → s.size - i = d →
    Ev (fun k => goutils_IsBlank.l0 k s (s.size : Int) (i : Int)) (((nums8 s).drop i).all spaceB) := by
  have w32 : ∀ i, wrap32 (bt s i) = bt s i := fun i => by have := bt_range s i; unfold wrap32; omega
  induction d with
  | zero =>
    intro i hi hd
    refine Ev.step (fun k => by rw [goutils_IsBlank.l0]) (Ev.neg (by omega) (Ev.eq ?_ (Ev.ok _)))
    rw [List.drop_of_length_le (by rw [nums8_length]; omega)]
    rfl
  | succ d ih =>
    intro i hi hd
    have hlt : i < s.size := by omega
    have hr := bt_range s i
    have hf : unicode_IsSpace.f (wrap32 (bt s i)) = some (spaceB (bt s i)) := by
      rw [w32]
      unfold unicode_IsSpace.f
      rw [if_pos ⟨hr.1, hr.2⟩]
    have hc : ((nums8 s).drop i).all spaceB = (spaceB (bt s i) && ((nums8 s).drop (i + 1)).all spaceB) := by
      rw [List.drop_eq_getElem_cons (by rw [nums8_length]; exact hlt), List.all_cons, nums8_at s i hlt]
    rw [hc]
    refine Ev.step (fun k => by rw [goutils_IsBlank.l0, hf]) ?_
    by_cases hs : spaceB (bt s i) = true
    · rw [hs, Bool.true_and]
      refine Ev.pos (by omega) (Ev.pos (by omega) (Ev.pos (by omega) (Ev.bind (Ev.ok _) (Ev.neg (by simp) ?_))))
      rw [step64 (n := s.size) (by omega) (by omega) (by omega)]
      exact ih (i + 1) (by omega) (by omega)
    · have hs' : spaceB (bt s i) = false := by simpa using hs
      rw [hs', Bool.false_and]
      exact Ev.pos (by omega) (Ev.pos (by omega) (Ev.pos (by omega) (Ev.bind (Ev.ok _) (Ev.pos rfl (Ev.ok _)))))
theorem go_blank (s : ByteArray) (h5 : s.size ≤ 500) : Ev (fun k => goutils_IsBlank.f k s) (allSpace s) := by
  unfold goutils_IsBlank.f
  by_cases h : s.toList = []
  · refine Ev.pos h ?_
    refine Ev.step (fun k => by rw [goutils_IsBlank.j0]) (Ev.pos rfl (Ev.eq ?_ (Ev.ok _)))
    rw [ByteArray.toList_eq] at h
    unfold allSpace nums8
    rw [h]
    rfl
  · have hz : s.size ≠ 0 := fun hz => h (by rw [ByteArray.toList_eq]; exact List.eq_nil_of_length_eq_zero (by simpa using hz))
    refine Ev.neg h ?_
    rw [show ((s.size : Int) == 0) = false from beq_eq_false_iff_ne.2 (by omega)]
    refine Ev.step (fun k => by rw [goutils_IsBlank.j0]) (Ev.neg Bool.false_ne_true ?_)
    exact blank_loop s h5 _ 0 (Nat.zero_le _) rfl

theorem FnBlank : laws_FnBlank.Pure := by
  intro a b ha hb
  refine Ev.rounds (g := fun k => laws_FnBlank.f k a b) ?_
  unfold laws_FnBlank.f
  have far : Ev (fun k => laws_FnBlank.j0 k a b true) true := Ev.step (fun k => by rw [laws_FnBlank.j0]) (Ev.pos rfl (Ev.ok _))
  by_cases h1 : (a.size : Int) > 2147483647
  · exact Ev.pos h1 far
  refine Ev.neg h1 ?_
  by_cases h2 : (b.size : Int) > 2147483647
  · rw [decide_eq_true h2]; exact far
  rw [decide_eq_false h2]
  refine Ev.step (fun k => by rw [laws_FnBlank.j0]) (Ev.neg Bool.false_ne_true ?_)
  obtain ⟨t, et, ht⟩ := plain9_tells [a, b] (by simp)
  refine Ev.bind et ?_
  cases t with
  | false => exact Ev.neg Bool.false_ne_true (Ev.ok _)
  | true =>
    obtain ⟨h5, has⟩ := ht rfl a (by simp)
    have e1 := spec_blank a h5 has
    have e2 := go_blank a h5
    have e3 : Ev (fun k => impl_Blank.f k a) (allSpace a) := by
      unfold impl_Blank.f
      exact Ev.bind e2 (Ev.ok _)
    have e4 : Ev (fun k => impl_Blank.f k (⟨#[32]⟩ : ByteArray)) true := by
      unfold impl_Blank.f
      exact Ev.bind (Ev.eq (by decide) (go_blank (⟨#[32]⟩ : ByteArray) (by decide))) (Ev.ok _)
    have e5 : Ev (fun k => impl_IfBlank.f k a b) (if allSpace a = true then b else a) := by
      unfold impl_IfBlank.f goutils_DefaultIfBlank.f
      refine Ev.bind (a := if allSpace a = true then b else a) (Ev.bind e2 ?_) (Ev.ok _)
      by_cases hs : allSpace a = true
      · exact Ev.eq (if_pos hs).symm (Ev.pos hs (Ev.ok _))
      · exact Ev.eq (if_neg hs).symm (Ev.neg hs (Ev.ok _))
    have last : ∀ want, want = (if allSpace a = true then b else a) → Ev (fun k => laws_FnBlank.j1 k a b want) true := by
      intro want hw
      refine Ev.step (fun k => by rw [laws_FnBlank.j1]) ?_
      exact Ev.bind e3 (Ev.bind e1 (Ev.pos (by simp) (Ev.bind e5 (Ev.pos (by rw [hw]) (Ev.bind e4 (Ev.ok _))))))
    refine Ev.pos rfl (Ev.bind e1 ?_)
    by_cases hs : allSpace a = true
    · exact Ev.pos hs (last b (by rw [if_pos hs]))
    · exact Ev.neg hs (last a (by rw [if_neg hs]))
end Go.Proofs.YtmdehalchdgoeaaDoor.Pure
