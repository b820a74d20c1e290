-- WRITTEN by xprint.py (a program of this session, over the kit's print) out of the translation. Not trusted: Lean checks it.
import Derived.Test.YtbcccmoddbmffaaDoorPx0
import Derived.Test.YtbcccmoddbmffaaDoorPx3
import Derived.Test.YtbcccmoddbmffaaDoorPx8
import Derived.Test.YtbcccmoddbmffaaDoorPx36
namespace Go.Proofs.YtbcccmoddbmffaaDoor.P
open Go.RowKit Go.Proofs.YtbcccmoddbmffaaDoorW.PrintWords Go.Proofs.YtbcccmoddbmffaaDoorW.PrintLast Go.Proofs.YtbcccmoddbmffaaDoorW.PrintMore
attribute [local go_sem] max2_int min2_int max_two min_two max_three min_three max_four min_four   -- for this text's walks alone
set_option linter.unusedVariables false
set_option linter.unusedSimpArgs false

-- GIVEN (a wrapper round 'caught', by program): function 26 (impl_ExpandTabs)
/-! ### impl_ExpandTabs: function 26 -/
set_option maxRecDepth 100000 in
theorem impl_ExpandTabs.inner (b : Nat) (a0 : ByteArray) (a1 : Int) (x : ByteArray) (r : ByteArray) (w : World) (h : xstrings_ExpandTabs.f a0 a1 = some r)
    (h0 : w.heap[b]? = some (.cells #[.string a0] 9 (0, 0))) (h1 : w.heap[b + 1]? = some (.cells #[.int .i64 a1] 3 (0, 0))) (h2 : w.heap[b + 2]? = some (.cells #[.string x] 9 (0, 0))) (HTU : TabsU w) :
    Calls Tryd.prog 55 #[.pointer (some ⟨b, 0, none⟩), .pointer (some ⟨b + 1, 0, none⟩), .pointer (some ⟨b + 2, 0, none⟩)] w fun e w' => e = .returned (.tuple #[]) ∧ ∃ w1, Below w.heap.size w w1 ∧ w' = w1.setCell ⟨b + 2, 0, none⟩ (.string r) := by
  have H := Lib.hid h
  clear h
  have c0 := cell_of_one h0
  have c1 := cell_of_one h1
  have HO := Lib.hid h2
  have lO := lt_of_block h2
  clear h0 h1 h2
  go_enter Tryd.func55, Tryd.ntmps55
  go_wp2_with fail
  refine (xstrings_ExpandTabs.calls _ _ r _ H.out HTU).mono ?_
  rintro e w1 ⟨rfl, hd⟩
  have hb := hd
  have c_ : w1.cell? ⟨b + 2, 0, none⟩ = some (.string x) := (hb.cell lO).trans (cell_of_one HO.out)
  have f_ : w1.frozen? ⟨b + 2, 0, none⟩ = false := (hb.frozen lO).trans (free_of_one HO.out)
  clear hd
  clear c0 c1
  have HB := Lib.hid hb
  clear hb
  go_wp2
  go_end0
  exact ⟨rfl, w1, HB.out, rfl⟩
set_option maxRecDepth 100000 in
theorem impl_ExpandTabs.innerBad (b : Nat) (a0 : ByteArray) (a1 : Int) (x : ByteArray) (w : World) (hp : a1 ≤ 0)
    (h0 : w.heap[b]? = some (.cells #[.string a0] 9 (0, 0))) (h1 : w.heap[b + 1]? = some (.cells #[.int .i64 a1] 3 (0, 0))) (h2 : w.heap[b + 2]? = some (.cells #[.string x] 9 (0, 0))) (HTU : TabsU w) :
    Calls Tryd.prog 55 #[.pointer (some ⟨b, 0, none⟩), .pointer (some ⟨b + 1, 0, none⟩), .pointer (some ⟨b + 2, 0, none⟩)] w fun e w' => (∃ u pv, e = .panicked [{ v := .iface u pv, recovered := false }]) ∧ Below w.heap.size w w' := by
  have c0 := cell_of_one h0
  have c1 := cell_of_one h1
  have HO := Lib.hid h2
  have lO := lt_of_block h2
  clear h0 h1 h2
  go_enter Tryd.func55, Tryd.ntmps55
  go_wp2_with fail
  refine (xstrings_ExpandTabs.panics _ _ _ hp HTU).mono ?_
  rintro e w1 ⟨⟨u, pv, rfl⟩, hb⟩
  exact And.intro rfl (And.intro ⟨u, pv, rfl⟩ hb)
def impl_ExpandTabs.f (a0 : ByteArray) (a1 : Int) : Option (ByteArray × Bool) := if a1 ≤ 0 then some (ByteArray.empty, false) else (xstrings_ExpandTabs.f a0 a1).bind fun r => some (r, true)
set_option maxRecDepth 100000 in
theorem impl_ExpandTabs.callsOk (a0 : ByteArray) (a1 : Int) (r : ByteArray) (w : World) (h : xstrings_ExpandTabs.f a0 a1 = some r) (HTU : TabsU w) :
    Calls Tryd.prog 26 #[.string a0, .int .i64 a1] w fun e w' => e = .returned (.tuple #[.string r, .bool true]) ∧ Below w.heap.size w w' := by
  have H := Lib.hid h
  clear h
  have hmf : ∀ (fn : Fn) (first cap : Array Value) (w : World), (Instr.makeFunc fn first cap).run Tryd.prog w = .ok (.func fn first cap) w := fun _ _ _ _ => rfl
  obtain ⟨W, hW⟩ : ∃ W, W = laidAll w [.cells #[.string a0] 9, .cells #[.int .i64 a1] 3, .cells #[.string ByteArray.empty] 9] := ⟨_, rfl⟩
  have hz : W.heap.size = w.heap.size + 3 := by rw [hW, laidAll_size]; rfl
  have hB0 : Below w.heap.size w W := by rw [hW]; exact laidAll_below _ _ _ (Below.refl _ _) (Nat.le_refl _)
  have g0 : W.heap[w.heap.size]? = some (.cells #[.string a0] 9 (0, 0)) := by rw [hW]; exact laidAll_at _ w 0 _ rfl
  have g1 : W.heap[w.heap.size + 1]? = some (.cells #[.int .i64 a1] 3 (0, 0)) := by rw [hW]; exact laidAll_at _ w 1 _ rfl
  have g2 : W.heap[w.heap.size + 2]? = some (.cells #[.string ByteArray.empty] 9 (0, 0)) := by rw [hW]; exact laidAll_at _ w 2 _ rfl
  let R : World → Prop := fun w1 => Below w.heap.size w w1 ∧ w1.heap[w.heap.size + 3]? = some (.cells #[.bool false] 4 (0, 0)) ∧ w1.heap[w.heap.size + 2]? = some (.cells #[.string r] 9 (0, 0))
  have C := impl_caught.ok 55 #[.pointer (some ⟨w.heap.size, 0, none⟩), .pointer (some ⟨w.heap.size + 1, 0, none⟩), .pointer (some ⟨w.heap.size + 2, 0, none⟩)] W R
    (fun w1 h => by rw [hz]; exact h.2.1) (fun w => by simp [go_sem])
    ((impl_ExpandTabs.inner w.heap.size a0 a1 ByteArray.empty r (W.alloc (.cells #[.bool false] 4)) H.out ((blk_alloc_old (by omega)).trans g0) ((blk_alloc_old (by omega)).trans g1) ((blk_alloc_old (by omega)).trans g2) (TabsU.below HTU (hB0.alloc (by omega) _))).mono (by
      rintro e w' ⟨rfl, w1, hb, rfl⟩
      have hs : (W.alloc (.cells #[.bool false] 4)).heap.size = w.heap.size + 4 := by rw [size_alloc1, hz]
      rw [hs] at hb
      refine ⟨rfl, ((hB0.alloc (by omega) _).trans (hb.mono (by omega))).setCell (by simp) _, ?_, one_setCell ((hb.block _ (by omega)).trans ((blk_alloc_old (by omega)).trans g2))⟩
      refine (Below.heap_setCell _ _ _ _ (by simp)).trans ((hb.block _ (by omega)).trans ?_)
      rw [← hz]
      exact heap_alloc_new W _))
  rw [hz] at C
  have HC := Lib.hid C
  clear C g0 g1 g2 hB0 hz
  simp only [laidAll] at hW
  subst hW
  go_enter Tryd.func26, Tryd.ntmps26
  go_wp2_with fail
  refine HC.out.mono ?_
  rintro e w' ⟨rfl, w1, ⟨q1, q2, q3⟩, rfl⟩
  have c_ := cell_of_one q3
  have f_ := free_of_one q3
  have Q1 := Lib.hid q1
  have Q3 := Lib.hid q3
  clear q1 q2 q3
  go_wp2
  refine bodyPost_ret (v := .tuple #[.string r, .bool true]) ?_ rfl ?_
  · have c3 := cell_of_one (one_setCell (u := .string r) ((Below.heap_setCell w1 ⟨w.heap.size + 3, 0, none⟩ (.bool true) (w.heap.size + 2) (by simp)).trans Q3.out))
    simp [results, Tryd.results26, go_sem, c3]
  · exact ⟨rfl, (Q1.out.setCell (by simp) _).setCell (by simp <;> omega) _⟩
set_option maxRecDepth 100000 in
theorem impl_ExpandTabs.callsBad (a0 : ByteArray) (a1 : Int) (w : World) (hp : a1 ≤ 0) (HTU : TabsU w) :
    Calls Tryd.prog 26 #[.string a0, .int .i64 a1] w fun e w' => e = .returned (.tuple #[.string ByteArray.empty, .bool false]) ∧ Below w.heap.size w w' := by
  have hmf : ∀ (fn : Fn) (first cap : Array Value) (w : World), (Instr.makeFunc fn first cap).run Tryd.prog w = .ok (.func fn first cap) w := fun _ _ _ _ => rfl
  obtain ⟨W, hW⟩ : ∃ W, W = laidAll w [.cells #[.string a0] 9, .cells #[.int .i64 a1] 3, .cells #[.string ByteArray.empty] 9] := ⟨_, rfl⟩
  have hz : W.heap.size = w.heap.size + 3 := by rw [hW, laidAll_size]; rfl
  have hB0 : Below w.heap.size w W := by rw [hW]; exact laidAll_below _ _ _ (Below.refl _ _) (Nat.le_refl _)
  have g0 : W.heap[w.heap.size]? = some (.cells #[.string a0] 9 (0, 0)) := by rw [hW]; exact laidAll_at _ w 0 _ rfl
  have g1 : W.heap[w.heap.size + 1]? = some (.cells #[.int .i64 a1] 3 (0, 0)) := by rw [hW]; exact laidAll_at _ w 1 _ rfl
  have g2 : W.heap[w.heap.size + 2]? = some (.cells #[.string ByteArray.empty] 9 (0, 0)) := by rw [hW]; exact laidAll_at _ w 2 _ rfl
  let R : World → Prop := fun w1 => Below w.heap.size w w1 ∧ w1.heap[w.heap.size + 3]? = some (.cells #[.bool false] 4 (0, 0)) ∧ w1.heap[w.heap.size + 2]? = some (.cells #[.string ByteArray.empty] 9 (0, 0))
  have C := impl_caught.bad 55 #[.pointer (some ⟨w.heap.size, 0, none⟩), .pointer (some ⟨w.heap.size + 1, 0, none⟩), .pointer (some ⟨w.heap.size + 2, 0, none⟩)] W R
    (fun w1 h => by rw [hz]; exact h.2.1) (fun w => by simp [go_sem])
    ((impl_ExpandTabs.innerBad w.heap.size a0 a1 ByteArray.empty (W.alloc (.cells #[.bool false] 4)) hp ((blk_alloc_old (by omega)).trans g0) ((blk_alloc_old (by omega)).trans g1) ((blk_alloc_old (by omega)).trans g2) (TabsU.below HTU (hB0.alloc (by omega) _))).mono (by
      rintro e w' ⟨he, hb⟩
      have hs : (W.alloc (.cells #[.bool false] 4)).heap.size = w.heap.size + 4 := by rw [size_alloc1, hz]
      rw [hs] at hb
      refine ⟨he, ((hB0.alloc (by omega) _).trans (hb.mono (by omega))), ?_, (hb.block _ (by omega)).trans ((blk_alloc_old (by omega)).trans g2)⟩
      refine (hb.block _ (by omega)).trans ?_
      rw [← hz]
      exact heap_alloc_new W _))
  rw [hz] at C
  have HC := Lib.hid C
  clear C g0 g1 g2 hB0 hz
  simp only [laidAll] at hW
  subst hW
  go_enter Tryd.func26, Tryd.ntmps26
  go_wp2_with fail
  refine HC.out.mono ?_
  rintro e w' ⟨rfl, w1, ⟨q1, q2, q3⟩, rfl⟩
  have c_ := cell_of_one q3
  have f_ := free_of_one q3
  have Q1 := Lib.hid q1
  have Q3 := Lib.hid q3
  clear q1 q2 q3
  go_wp2
  refine bodyPost_ret (v := .tuple #[.string ByteArray.empty, .bool false]) ?_ rfl ?_
  · have c3 := cell_of_one (one_setCell (u := .string ByteArray.empty) ((Below.heap_setCell w1 ⟨w.heap.size + 3, 0, none⟩ (.bool false) (w.heap.size + 2) (by simp)).trans Q3.out))
    simp [results, Tryd.results26, go_sem, c3]
  · exact ⟨rfl, (Q1.out.setCell (by simp) _).setCell (by simp <;> omega) _⟩
theorem impl_ExpandTabs.calls (a0 : ByteArray) (a1 : Int) (r1 : ByteArray) (r2 : Bool) (w : World) (h : impl_ExpandTabs.f a0 a1 = some (r1, r2)) (HTU : TabsU w) :
    Calls Tryd.prog 26 #[.string a0, .int .i64 a1] w fun e w' => e = .returned (.tuple #[.string r1, .bool r2]) ∧ Below w.heap.size w w' := by
  unfold impl_ExpandTabs.f at h
  by_cases hp : a1 ≤ 0
  · rw [if_pos hp] at h
    simp only [Option.some.injEq, Prod.mk.injEq] at h
    obtain ⟨rfl, rfl⟩ := h
    exact impl_ExpandTabs.callsBad a0 a1 w hp HTU
  · rw [if_neg hp] at h
    obtain ⟨r, hr, he⟩ := Option.bind_eq_some_iff.1 h
    simp only [Option.some.injEq, Prod.mk.injEq] at he
    obtain ⟨rfl, rfl⟩ := he
    exact impl_ExpandTabs.callsOk a0 a1 r w hr HTU

end Go.Proofs.YtbcccmoddbmffaaDoor.P
