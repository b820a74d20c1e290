-- WRITTEN by xprint.py (a program of this session, over the kit's print) out of the translation. Not trusted: Lean checks it.
import Derived.Test.YtagafmfmmnegfaaDoorPx0
import Derived.Test.YtagafmfmmnegfaaDoorPx20
import Derived.Test.YtagafmfmmnegfaaDoorPx22
namespace Go.Proofs.YtagafmfmmnegfaaDoor.P
open Go.RowKit Go.Proofs.YtagafmfmmnegfaaDoorW.PrintWords Go.Proofs.YtagafmfmmnegfaaDoorW.PrintLast Go.Proofs.YtagafmfmmnegfaaDoorW.PrintMore
attribute [local go_sem] max2_int min2_int max_two min_two max_three min_three max_four min_four   -- for this text's walks alone
set_option linter.unusedVariables false
set_option linter.unusedSimpArgs false

-- GIVEN (a wrapper round 'caught', by program): function 39 (impl_Div)
/-! ### impl_Div: function 39 -/
set_option maxRecDepth 100000 in
theorem impl_Div.inner (b : Nat) (a0 : Int) (a1 : Int) (x : Int) (r : Int) (w : World) (h : sprig_Div.f a0 a1 = some r)
    (h0 : w.heap[b]? = some (.cells #[.int .i64 a0] 2 (0, 0))) (h1 : w.heap[b + 1]? = some (.cells #[.int .i64 a1] 2 (0, 0))) (h2 : w.heap[b + 2]? = some (.cells #[.int .i64 x] 2 (0, 0))) :
    Calls Tryd.prog 70 #[.pointer (some ⟨b, 0, none⟩), .pointer (some ⟨b + 1, 0, none⟩), .pointer (some ⟨b + 2, 0, none⟩)] w fun e w' => e = .returned (.tuple #[]) ∧ ∃ w1, Below w.heap.size w w1 ∧ w' = w1.setCell ⟨b + 2, 0, none⟩ (.int .i64 r) := by
  have H := Lib.hid h
  clear h
  have c0 := cell_of_one h0
  have c1 := cell_of_one h1
  have HO := Lib.hid h2
  have lO := lt_of_block h2
  clear h0 h1 h2
  go_enter Tryd.func70, Tryd.ntmps70
  go_wp2_with fail
  refine (sprig_Div.calls _ _ r _ H.out).mono ?_
  rintro e w1 ⟨rfl, hd⟩
  have hb := hd
  have c_ : w1.cell? ⟨b + 2, 0, none⟩ = some (.int .i64 x) := (hb.cell lO).trans (cell_of_one HO.out)
  have f_ : w1.frozen? ⟨b + 2, 0, none⟩ = false := (hb.frozen lO).trans (free_of_one HO.out)
  clear hd
  clear c0 c1
  have HB := Lib.hid hb
  clear hb
  go_wp2
  go_end0
  exact ⟨rfl, w1, HB.out, rfl⟩
def impl_Div.f (a0 : Int) (a1 : Int) : Option (Int × Bool) := (sprig_Div.f a0 a1).bind fun r => some (r, true)
set_option maxRecDepth 100000 in
theorem impl_Div.callsOk (a0 : Int) (a1 : Int) (r : Int) (w : World) (h : sprig_Div.f a0 a1 = some r) :
    Calls Tryd.prog 39 #[.int .i64 a0, .int .i64 a1] w fun e w' => e = .returned (.tuple #[.int .i64 r, .bool true]) ∧ Below w.heap.size w w' := by
  have H := Lib.hid h
  clear h
  have hmf : ∀ (fn : Fn) (first cap : Array Value) (w : World), (Instr.makeFunc fn first cap).run Tryd.prog w = .ok (.func fn first cap) w := fun _ _ _ _ => rfl
  obtain ⟨W, hW⟩ : ∃ W, W = laidAll w [.cells #[.int .i64 a0] 2, .cells #[.int .i64 a1] 2, .cells #[.int .i64 0] 2] := ⟨_, rfl⟩
  have hz : W.heap.size = w.heap.size + 3 := by rw [hW, laidAll_size]; rfl
  have hB0 : Below w.heap.size w W := by rw [hW]; exact laidAll_below _ _ _ (Below.refl _ _) (Nat.le_refl _)
  have g0 : W.heap[w.heap.size]? = some (.cells #[.int .i64 a0] 2 (0, 0)) := by rw [hW]; exact laidAll_at _ w 0 _ rfl
  have g1 : W.heap[w.heap.size + 1]? = some (.cells #[.int .i64 a1] 2 (0, 0)) := by rw [hW]; exact laidAll_at _ w 1 _ rfl
  have g2 : W.heap[w.heap.size + 2]? = some (.cells #[.int .i64 0] 2 (0, 0)) := by rw [hW]; exact laidAll_at _ w 2 _ rfl
  let R : World → Prop := fun w1 => Below w.heap.size w w1 ∧ w1.heap[w.heap.size + 3]? = some (.cells #[.bool false] 4 (0, 0)) ∧ w1.heap[w.heap.size + 2]? = some (.cells #[.int .i64 r] 2 (0, 0))
  have C := impl_caught.ok 70 #[.pointer (some ⟨w.heap.size, 0, none⟩), .pointer (some ⟨w.heap.size + 1, 0, none⟩), .pointer (some ⟨w.heap.size + 2, 0, none⟩)] W R
    (fun w1 h => by rw [hz]; exact h.2.1) (fun w => by simp [go_sem])
    ((impl_Div.inner w.heap.size a0 a1 0 r (W.alloc (.cells #[.bool false] 4)) H.out ((blk_alloc_old (by omega)).trans g0) ((blk_alloc_old (by omega)).trans g1) ((blk_alloc_old (by omega)).trans g2)).mono (by
      rintro e w' ⟨rfl, w1, hb, rfl⟩
      have hs : (W.alloc (.cells #[.bool false] 4)).heap.size = w.heap.size + 4 := by rw [size_alloc1, hz]
      rw [hs] at hb
      refine ⟨rfl, ((hB0.alloc (by omega) _).trans (hb.mono (by omega))).setCell (by simp) _, ?_, one_setCell ((hb.block _ (by omega)).trans ((blk_alloc_old (by omega)).trans g2))⟩
      refine (Below.heap_setCell _ _ _ _ (by simp)).trans ((hb.block _ (by omega)).trans ?_)
      rw [← hz]
      exact heap_alloc_new W _))
  rw [hz] at C
  have HC := Lib.hid C
  clear C g0 g1 g2 hB0 hz
  simp only [laidAll] at hW
  subst hW
  go_enter Tryd.func39, Tryd.ntmps39
  go_wp2_with fail
  refine HC.out.mono ?_
  rintro e w' ⟨rfl, w1, ⟨q1, q2, q3⟩, rfl⟩
  have c_ := cell_of_one q3
  have f_ := free_of_one q3
  have Q1 := Lib.hid q1
  have Q3 := Lib.hid q3
  clear q1 q2 q3
  go_wp2
  refine bodyPost_ret (v := .tuple #[.int .i64 r, .bool true]) ?_ rfl ?_
  · have c3 := cell_of_one (one_setCell (u := .int .i64 r) ((Below.heap_setCell w1 ⟨w.heap.size + 3, 0, none⟩ (.bool true) (w.heap.size + 2) (by simp)).trans Q3.out))
    simp [results, Tryd.results39, go_sem, c3]
  · exact ⟨rfl, (Q1.out.setCell (by simp) _).setCell (by simp <;> omega) _⟩
theorem impl_Div.calls (a0 : Int) (a1 : Int) (r1 : Int) (r2 : Bool) (w : World) (h : impl_Div.f a0 a1 = some (r1, r2)) :
    Calls Tryd.prog 39 #[.int .i64 a0, .int .i64 a1] w fun e w' => e = .returned (.tuple #[.int .i64 r1, .bool r2]) ∧ Below w.heap.size w w' := by
  unfold impl_Div.f at h
  obtain ⟨r, hr, he⟩ := Option.bind_eq_some_iff.1 h
  simp only [Option.some.injEq, Prod.mk.injEq] at he
  obtain ⟨rfl, rfl⟩ := he
  exact impl_Div.callsOk a0 a1 r w hr

end Go.Proofs.YtagafmfmmnegfaaDoor.P
