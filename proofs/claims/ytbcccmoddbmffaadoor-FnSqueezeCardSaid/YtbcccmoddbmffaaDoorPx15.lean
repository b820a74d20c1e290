-- WRITTEN by xprint.py (a program of this session, over the kit's print) out of the translation. Not trusted: Lean checks it.
import Derived.Test.YtbcccmoddbmffaaDoorPx0
namespace Go.Proofs.YtbcccmoddbmffaaDoor.P
open Go.RowKit Go.Proofs.YtbcccmoddbmffaaDoorW.PrintWords Go.Proofs.YtbcccmoddbmffaaDoorW.PrintLast Go.Proofs.YtbcccmoddbmffaaDoorW.PrintMore
attribute [local go_sem] max2_int min2_int max_two min_two max_three min_three max_four min_four   -- for this text's walks alone
set_option linter.unusedVariables false
set_option linter.unusedSimpArgs false

-- GIVEN by hand: function 34 (spec_SqueezeOf)
/-! ### spec_SqueezeOf: function 34 -/
/-- A character that is the one ahead of it is left out. -/
def sqr : List Int → List Int → List Int
  | [], out => out
  | c :: cs, out => if 0 < out.length ∧ rd out ((out.length : Int) - 1) = c then sqr cs out else sqr cs (out ++ [c])
theorem sqr_skip (c : Int) (cs out : List Int) (h : 0 < out.length ∧ rd out ((out.length : Int) - 1) = c) : sqr (c :: cs) out = sqr cs out := by rw [sqr, if_pos h]
theorem sqr_put (c : Int) (cs out : List Int) (h : ¬ (0 < out.length ∧ rd out ((out.length : Int) - 1) = c)) : sqr (c :: cs) out = sqr cs (out ++ [c]) := by rw [sqr, if_neg h]
theorem sq_base_le {w : World} {base : Nat} {e : TypeId} {size : Nat} {v : Value} {n : Nat} {xs : List Value} (h : w.ownsRow base e size v n xs) {q : Nat} (hq : v.ownBlock = some q) : base ≤ q := by
  obtain ⟨_, ⟨rfl, _⟩ | ⟨g, cap, cur, rfl, hb, _⟩⟩ := h
  · simp [Value.ownBlock] at hq
  · simp [Value.ownBlock] at hq
    omega
theorem sq_step (s : ByteArray) (b p : Nat) (h : p < s.size) : runesGo s (b + 1) p = ((Utf8.decode s p).1 : Int) :: runesGo s b (p + (Utf8.decode s p).2) := by rw [runesGo, if_pos h]
theorem sq_end (s : ByteArray) (b p : Nat) (h : ¬ p < s.size) : runesGo s b p = [] := by
  cases b with
  | zero => rfl
  | succ b => rw [runesGo, if_neg h]
def spec_SqueezeOf.f (a0 : ByteArray) (_a1_0 : Bool) (_l1_1 : List Int) (a2 : Bool) : Option ByteArray := if a0.size ≤ 1048576 ∧ a2 = true then some (runesBytes (sqr (runesOf a0) [])) else none
set_option maxHeartbeats 1600000 in
set_option maxRecDepth 100000 in
theorem spec_SqueezeOf.calls (a0 : ByteArray) (a1_0 : Bool) (A1_1 : Option Addr) (c1_1 : Nat) (l1_1 : List Int) (a2 : Bool) (r : ByteArray) (w : World) (hr1_1 : Kd.C (Kd.int .i32) w A1_1 l1_1.length l1_1) (hc1_1 : l1_1.length ≤ c1_1) (h : spec_SqueezeOf.f a0 a1_0 l1_1 a2 = some r) :
    Calls Tryd.prog 34 #[.string a0, .agg #[.bool a1_0, .slice A1_1 l1_1.length c1_1], .bool a2] w fun e w' => e = .returned (.string r) ∧ Below w.heap.size w w' := by
  unfold spec_SqueezeOf.f at h
  split at h
  · rename_i hc
    obtain ⟨hsz, rfl⟩ := hc
    injection h with h
    obtain ⟨i0, hi, hz0, hz1, hz2⟩ := info_parts (show (Tryd.prog.info? 21).map (fun i => (i.zero, i.size, i.bytes)) = some (some (.int .i32 0), 1, 4) by kernel_rfl)
    have hR := Aside0.mk (show sqr (runesGo a0 a0.size 0) [] = sqr (runesOf a0) [] from rfl)
    have hr := Lib.hid h
    clear h hr1_1 hc1_1
    obtain ⟨Q, hQ⟩ : ∃ Q, Q = sqr (runesOf a0) [] := ⟨_, rfl⟩
    rw [← hQ] at hr hR
    clear hQ
    go_enter Tryd.func34, Tryd.ntmps34
    go_wp2
    go_loopw [7, 9, 10] (fun v x n w' => ∃ (pos b : Nat) (out : List Int) (xv nv : Value), x = xv ∧ n = nv ∧ Hid (w'.heap[w.heap.size + 1]? = some (.stringIter a0 pos)) ∧ Hid (w'.ownsRow (w.heap.size + 2) 21 1 v out.length (nums .i32 out)) ∧ Aside0 (sqr (runesGo a0 b pos) out = Q) ∧ Hid (a0.size ≤ pos + b) ∧ out.length ≤ pos ∧ Hid (Below w.heap.size w w') ∧ Hid (w.heap.size + 2 ≤ w'.heap.size)) (fun _ _ _ w' => a0.size - w'.iterPos (w.heap.size + 1))
    case atStart =>
      refine ⟨0, a0.size, [], _, _, rfl, rfl, Lib.hid ?_, Lib.hid (World.ownsRow_nil _ _ _ _), hR, Lib.hid (by omega), Nat.le_refl _, Lib.hid ?_, Lib.hid ?_⟩
      · have := World.iter_heap (w.alloc (.cells #[.bool a1_0, .slice A1_1 l1_1.length c1_1] 43)) a0 0
        rw [← this]
        congr 1
        simp
      · exact ((Below.refl w.heap.size w).alloc (Nat.le_refl _) _).alloc (by simp) _
      · simp [World.iter]
    case round =>
      obtain ⟨pos, b, out, xv, nv, rfl, rfl, hI, hO, hA, hb, hl, hB, hS⟩ := hrel
      by_cases hp : pos < a0.size
      · have hnx : ∀ ty, (Instr.next (.pointer (some ⟨w.heap.size + 1, 0, none⟩)) true ty).run Tryd.prog wr = _ := fun ty => Lib.run_next_any_at wr _ a0 pos ty hI.out hp
        have hwd := width_pos a0 pos hp
        obtain ⟨b, rfl⟩ : ∃ c, b = c + 1 := ⟨b - 1, by have := hb.out; omega⟩
        have hst := Aside0.mk (show sqr (((Utf8.decode a0 pos).1 : Int) :: runesGo a0 b (pos + (Utf8.decode a0 pos).2)) out = Q by rw [← sq_step a0 b pos hp]; exact hA.out)
        obtain ⟨W2, hW2⟩ : ∃ W2, W2 = wr.iterAt (w.heap.size + 1) a0 (pos + (Utf8.decode a0 pos).2) := ⟨_, rfl⟩
        rw [← hW2] at hnx
        have hpos := iterPos_of hI.out
        have hI2 := Lib.hid (show W2.heap[w.heap.size + 1]? = some (.stringIter a0 (pos + (Utf8.decode a0 pos).2)) by rw [hW2]; exact Lib.iterAt_heap _ _ _ _ _ hI.out)
        have hO2 := Lib.hid (show W2.ownsRow (w.heap.size + 2) 21 1 u7 out.length (nums .i32 out) by rw [hW2]; exact ownsRow_iterAt hO.out (by omega) _ _)
        have hB2 := Lib.hid (show Below w.heap.size w W2 by rw [hW2]; exact Lib.below_iterAt hB.out (by omega) _ _)
        have hS2 := Lib.hid (show w.heap.size + 2 ≤ W2.heap.size by rw [hW2, Lib.iterAt_size]; exact hS.out)
        have hb2 := Lib.hid (show a0.size ≤ pos + (Utf8.decode a0 pos).2 + b by have := hb.out; omega)
        clear hW2 hA hI hO hB hS hb
        generalize (Utf8.decode a0 pos).2 = d at *
        generalize ((Utf8.decode a0 pos).1 : Int) = ch at *
        by_cases c0 : 0 < out.length
        · obtain ⟨A, c, rfl, hrd⟩ := own_reads hO2.out
          obtain ⟨ad, rfl, hcell0⟩ := hrd.at_ ((out.length : Int) - 1) (by omega) (by omega)
          obtain ⟨x, hx⟩ : ∃ x, x = rd out ((out.length : Int) - 1) := ⟨_, rfl⟩
          rw [← hx] at hcell0
          have hcell : W2.cell? (ad.add (out.length - 1)) = some (.int .i32 x) := by rw [show out.length - 1 = ((out.length : Int) - 1).toNat by omega]; exact hcell0
          clear hcell0 hrd
          have hi0 : (0 : Int) ≤ (out.length : Int) - 1 := by omega
          have hi1 : (out.length : Int) - 1 < (out.length : Int) := by omega
          have hgt : (0 : Int) < (out.length : Int) := by omega
          by_cases ce : x = ch
          · subst ce
            have hAx := Aside0.mk ((sqr_skip x _ out ⟨c0, hx.symm⟩).symm.trans hst.out)
            clear hst
            have hx' := Lib.hid hx
            clear hx
            go_wp2
            go_roundw
            case rel => exact ⟨pos + d, b, out, _, _, rfl, rfl, hI2, hO2, hAx, hb2, by omega, hB2, hS2⟩
            case measure => rw [iterPos_of hI2.out, hpos]; omega
          · have ceb : (x == ch) = false := beq_eq_false_iff_ne.2 ce
            have hx' := Lib.hid hx
            clear hx
            have hAx := Aside0.mk ((sqr_put ch _ out (fun q => ce (hx'.out.trans q.2))).symm.trans hst.out)
            have hO3 := Lib.hid (hO2.out.alloc (.cells #[.int .i32 ch] 21))
            have hlm := Lib.hid (show out.length + 1 ≤ 1048577 by omega)
            clear hst
            go_wp2_with (first | (at_builtin; refine wpList_append_own _ rfl _ _ 25 rfl (w.heap.size + 2) 21 i0 (.int .i32 0) 1 4 Tryd.underlying25 hi hz0 hz1 hz2 rfl (by decide) _ out.length _ rfl hO3.out ⟨W2.heap.size, 0, none⟩ 1 1 [.int .i32 ch] rfl rfl ?_ ?_ (by unfold maxLen; omega) (by omega) (by have := hS2.out; simp; omega) ?_) | fail)
            · intro j u hu
              cases j with
              | zero =>
                simp only [List.getElem?_cons_zero, Option.some.injEq] at hu
                subst hu
                rw [Addr.add_lit]
                exact cell_of_one (heap_alloc_new _ _)
              | succ j => simp at hu
            · intro u hu
              rw [List.mem_singleton.1 hu]
              rfl
            · intro v' w1 hown hg _
              have hO4 := Lib.hid (show w1.ownsRow (w.heap.size + 2) 21 1 v' (out ++ [ch]).length (nums .i32 (out ++ [ch])) by
                have := hown
                simp only [List.length_append, List.length_cons, List.length_nil, nums, List.map_append, List.map_cons, List.map_nil] at this ⊢
                exact this)
              have hb0 : Below (w.heap.size + 2) W2 w1 := Below.grown ((Below.refl _ W2).alloc hS2.out _) hg (by have := hS2.out; simp; omega) (fun q hq => sq_base_le hO3.out hq)
              have hI4 := Lib.hid (show w1.heap[w.heap.size + 1]? = some (.stringIter a0 (pos + d)) by rw [hb0.block _ (by omega)]; exact hI2.out)
              have hB4 := Lib.hid (hB2.out.trans (hb0.mono (by omega)))
              have hS4 := Lib.hid (Nat.le_trans hS2.out hb0.size)
              clear hown hg hb0 hO2 hO3 hI2 hB2 hS2
              go_wp2
              go_roundw
              case rel => exact ⟨pos + d, b, out ++ [ch], _, _, rfl, rfl, hI4, hO4, hAx, hb2, by rw [List.length_append]; simp; omega, hB4, hS4⟩
              case measure => rw [iterPos_of hI4.out, hpos]; omega
        · obtain rfl : out = [] := List.eq_nil_of_length_eq_zero (by omega)
          obtain ⟨A, c, rfl, hrd⟩ := own_reads hO2.out
          clear hrd
          have hAx := Aside0.mk ((sqr_put ch _ [] (fun q => c0 q.1)).symm.trans hst.out)
          have hO3 := Lib.hid (hO2.out.alloc (.cells #[.int .i32 ch] 21))
          have hlm := Lib.hid (show ([] : List Int).length + 1 ≤ 1048577 by simp)
          clear hst
          go_wp2_with (first | (at_builtin; refine wpList_append_own _ rfl _ _ 25 rfl (w.heap.size + 2) 21 i0 (.int .i32 0) 1 4 Tryd.underlying25 hi hz0 hz1 hz2 rfl (by decide) _ ([] : List Int).length _ rfl hO3.out ⟨W2.heap.size, 0, none⟩ 1 1 [.int .i32 ch] rfl rfl ?_ ?_ (by unfold maxLen; omega) (by omega) (by have := hS2.out; simp; omega) ?_) | fail)
          · intro j u hu
            cases j with
            | zero =>
              simp only [List.getElem?_cons_zero, Option.some.injEq] at hu
              subst hu
              rw [Addr.add_lit]
              exact cell_of_one (heap_alloc_new _ _)
            | succ j => simp at hu
          · intro u hu
            rw [List.mem_singleton.1 hu]
            rfl
          · intro v' w1 hown hg _
            have hO4 := Lib.hid (show w1.ownsRow (w.heap.size + 2) 21 1 v' ([] ++ [ch]).length (nums .i32 ([] ++ [ch])) by
              have := hown
              simp only [List.length_append, List.length_cons, List.length_nil, nums, List.map_append, List.map_cons, List.map_nil] at this ⊢
              exact this)
            have hb0 : Below (w.heap.size + 2) W2 w1 := Below.grown ((Below.refl _ W2).alloc hS2.out _) hg (by have := hS2.out; simp; omega) (fun q hq => sq_base_le hO3.out hq)
            have hI4 := Lib.hid (show w1.heap[w.heap.size + 1]? = some (.stringIter a0 (pos + d)) by rw [hb0.block _ (by omega)]; exact hI2.out)
            have hB4 := Lib.hid (hB2.out.trans (hb0.mono (by omega)))
            have hS4 := Lib.hid (Nat.le_trans hS2.out hb0.size)
            clear hown hg hb0 hO2 hO3 hI2 hB2 hS2
            go_wp2
            go_roundw
            case rel => exact ⟨pos + d, b, [] ++ [ch], _, _, rfl, rfl, hI4, hO4, hAx, hb2, by rw [List.length_append]; simp; omega, hB4, hS4⟩
            case measure => rw [iterPos_of hI4.out, hpos]; omega
      · have hnx : ∀ ty, (Instr.next (.pointer (some ⟨w.heap.size + 1, 0, none⟩)) true ty).run Tryd.prog wr = _ := fun ty => Lib.run_next_end_at wr _ a0 pos ty hI.out hp
        have hQ := Lib.hid (show out = Q by have := hA.out; rw [sq_end a0 b pos hp, sqr] at this; exact this)
        have hcv := own_runestring (P := Tryd.prog) (src := 25) (dst := 9) (e := 21) Tryd.underlying25 Tryd.underlying21 Tryd.underlying9 hO.out
        clear hA hO hb hI
        go_wp2
        go_ret
        exact ⟨by have := hr.out; rw [← hQ.out] at this; rw [← this]; rfl, hB.out⟩
  · cases h

end Go.Proofs.YtbcccmoddbmffaaDoor.P
