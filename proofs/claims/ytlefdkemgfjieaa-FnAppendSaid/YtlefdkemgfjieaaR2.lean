/- sprig.mustReverse: a row of interface values the other way round. -/
import Derived.Test.YtlefdkemgfjieaaR1
set_option linter.unusedVariables false
set_option linter.unusedSimpArgs false
namespace Go.Proofs.Ytlefdkemgfjieaa.P
open Go.RowKit Go.Proofs.YtlefdkemgfjieaaW.PrintWords Go.Proofs.YtlefdkemgfjieaaW.PrintLast Go.Proofs.YtlefdkemgfjieaaW.PrintMore
attribute [local go_sem] run_store_float

theorem zzList_call (u : Value) (w : World) : Calls Try.prog 88 #[.iface 77 u] w fun e w' => e = .returned (.tuple #[u, .bool true]) ∧ Below w.heap.size w w' := by
  have ta0 : ∀ (v : Value) (W : World), (Instr.typeAssert (.iface 77 v) 20 77 true).run Try.prog W = .ok (.tuple #[v, .bool true]) W := fun v W => by kernel_rfl
  go_enter Try.func88, Try.ntmps88
  go_wp2
  go_ret2
  exact ⟨rfl, Below.refl _ _⟩
set_option maxHeartbeats 3200000 in
set_option maxRecDepth 100000 in
theorem mustReverse_call {n : Nat} (l : List S26) (u : Value) (ok : Nat → Prop) (w : World) (hl : l.length ≤ 300) (hr : RowOf (GoN n ok w) ok w l u) :
    Calls Try.prog 78 #[.iface 77 u] w fun e w' => ∃ u', e = .returned (.tuple #[u', .nilIface]) ∧ RowOf (GoN n (fun _ => True) w') (fun _ => True) w' l.reverse u' ∧ Below w.heap.size w w' := by
  obtain ⟨g, c, vs, rfl, hg, hvs, ho, hel⟩ := hr
  have hgl := (ho.lt g (by simp [Value.ownBlock])).2
  have HO := Lib.hid ho
  have HE := Lib.hid hel
  have HVS := Lib.hid hvs
  have HGL := Lib.hid hgl
  have HZ := Lib.hid (zzList_call (.slice (some ⟨g, 0, none⟩) l.length c) w)
  have HMK := print_make_of (P := Try.prog) 77 20 .nilIface 16 Try.underlying77 info_any rfl (by decide) l.length (by omega)
  clear ho hel hvs hgl hg
  obtain ⟨N, hNN⟩ : ∃ N, N = l.length := ⟨_, rfl⟩
  have HN := Lib.hid hNN
  rw [← hNN] at hl HMK HZ HO ⊢
  clear hNN
  go_enter Try.func78, Try.ntmps78
  go_wp2_with fail
  refine HZ.out.mono ?_
  rintro e w1 ⟨rfl, hb1⟩
  have HB1 := Lib.hid hb1
  clear hb1 HZ
  have hmk := (madeCells #[Value.nilIface] N)
  have HA := Lib.hid (show ∃ arr : Array Value, (w1.alloc (.cells (madeCells #[.nilIface] N) 20)).heap[w1.heap.size]? = some (.cells arr 20 (0, 0)) ∧ arr.size = N ∧ ∀ j, j < 0 → arr[N - 1 - j]? = some (vs.getD j .nilIface) from ⟨_, heap_alloc_new w1 _, size_madeCells _ _, fun j hj => absurd hj (by omega)⟩)
  have HB2 := Lib.hid (HB1.out.alloc HB1.out.size (.cells (madeCells #[.nilIface] N) 20))
  have HS2 := Lib.hid (show w1.heap.size < (w1.alloc (.cells (madeCells #[.nilIface] N) 20)).heap.size by simp)
  have HLE := Lib.hid HB1.out.size
  clear hmk
  go_wp2
  go_loopw [8] (fun i wr => ∃ k : Nat, i = .int .i64 k ∧ k ≤ N ∧ Hid (∃ arr : Array Value, wr.heap[w1.heap.size]? = some (.cells arr 20 (0, 0)) ∧ arr.size = N ∧ ∀ j, j < k → arr[N - 1 - j]? = some (vs.getD j .nilIface)) ∧ Hid (Below w.heap.size w wr) ∧ Hid (w1.heap.size < wr.heap.size)) (fun i _ => N - (intOf i).toNat)
  case atStart => exact ⟨0, rfl, Nat.zero_le _, HA, HB2, HS2⟩
  case round =>
    clear HA HB2 HS2 HMK HB1
    obtain ⟨k, rfl, hk, hA, hB, hS⟩ := hrel
    by_cases ck : k < N
    · obtain ⟨arr, ha, hsz, hel⟩ := hA.out
      have hcell : wr.cell? ⟨g, k, none⟩ = some (vs.getD k .nilIface) := by
        have h1 : vs[k]? = some (vs.getD k .nilIface) := by rw [List.getD_eq_getElem?_getD, List.getElem?_eq_getElem (by rw [HVS.out, ← HN.out]; exact ck)]; rfl
        have h2 := HO.out.cells (g := g) (by simp [Value.ownBlock]) k _ h1
        rw [Addr.add_lit, Nat.zero_add] at h2
        exact (hB.out.cell HGL.out).trans h2
      have hidx : (N : Int) - (k : Int) - 1 = ((N - 1 - k : Nat) : Int) := by omega
      have hz := blk_frozen ha (N - 1 - k)
      have hcl : wr.cell? ⟨w1.heap.size, N - 1 - k, none⟩ = some (arr.getD (N - 1 - k) .nilIface) := by
        rw [blk_cell ha (N - 1 - k)]
        simp [Array.getD, show N - 1 - k < arr.size by omega]
      have ci0 : (0 : Int) ≤ (k : Int) := by omega
      have ci1 : (k : Int) < (N : Int) := by omega
      have ci3 : (0 : Int) ≤ ((N - 1 - k : Nat) : Int) := by omega
      have ci4 : ((N - 1 - k : Nat) : Int) < (N : Int) := by omega
      have ci5 : N - 1 - k < N := by omega
      have hsh := (HE.out k (by rw [← HN.out]; exact ck)).shape
      rcases hsh with hvv | ⟨t, q, hvv⟩
      · rw [hvv] at hcell
        go_wp2
        go_roundw
        case rel => exact ⟨k + 1, by go_num, by omega, Lib.hid ⟨_, blk_set ha (N - 1 - k) _, by rw [Array.size_setIfInBounds]; exact hsz, fun j hj => by
          by_cases hjk : j < k
          · rw [Array.getElem?_setIfInBounds_ne (by omega)]
            exact hel j hjk
          · have : j = k := by omega
            subst this
            rw [Array.getElem?_setIfInBounds_self_of_lt (by omega)]
            rw [hvv]⟩, Lib.hid (hB.out.setCell (by show w.heap.size ≤ w1.heap.size; exact HLE.out) _), Lib.hid (by simpa [World.setCell] using hS.out)⟩
        case measure => simp [intOf]; omega
      · rw [hvv] at hcell
        go_wp2
        go_roundw
        case rel => exact ⟨k + 1, by go_num, by omega, Lib.hid ⟨_, blk_set ha (N - 1 - k) _, by rw [Array.size_setIfInBounds]; exact hsz, fun j hj => by
          by_cases hjk : j < k
          · rw [Array.getElem?_setIfInBounds_ne (by omega)]
            exact hel j hjk
          · have : j = k := by omega
            subst this
            rw [Array.getElem?_setIfInBounds_self_of_lt (by omega)]
            rw [hvv]⟩, Lib.hid (hB.out.setCell (by show w.heap.size ≤ w1.heap.size; exact HLE.out) _), Lib.hid (by simpa [World.setCell] using hS.out)⟩
        case measure => simp [intOf]; omega
    · have hkn : k = N := by omega
      subst hkn
      have HF := Lib.hid (show RowOf (GoN n (fun _ => True) wr) (fun _ => True) wr l.reverse (.slice (some ⟨w1.heap.size, 0, none⟩) k k) from by
        obtain ⟨arr, ha, hsz, hel⟩ := hA.out
        have hkl : l.reverse.length = k := by rw [List.length_reverse, ← HN.out]
        refine ⟨w1.heap.size, k, arr.toList, by rw [hkl], trivial, by rw [hkl, Array.length_toList, hsz], ⟨by rw [hkl, Array.length_toList, hsz, Nat.mul_one], .inr ⟨w1.heap.size, k, arr, by rw [hkl], Nat.zero_le _, ha, by rw [hkl]; exact Nat.le_refl _, by unfold maxLen; omega, by rw [hsz, Nat.mul_one], ?_⟩⟩, fun i hi => ?_⟩
        · rw [hkl, Nat.mul_one, List.take_of_length_le (by rw [Array.length_toList, hsz]; exact Nat.le_refl _)]
        · have hi2 : i < k := by omega
          have h1 := hel (k - 1 - i) (by omega)
          rw [show k - 1 - (k - 1 - i) = i by omega] at h1
          have h2 : arr.toList.getD i .nilIface = vs.getD (k - 1 - i) .nilIface := by
            rw [List.getD_eq_getElem?_getD, Array.getElem?_toList, h1]
            rfl
          have h3 : l.reverse.getD i z26 = l.getD (k - 1 - i) z26 := by
            have hlen := HN.out
            rw [List.getD_eq_getElem?_getD, List.getD_eq_getElem?_getD, List.getElem?_reverse (by omega), ← hlen]
          rw [h2, h3]
          exact (HE.out (k - 1 - i) (by rw [← HN.out]; omega)).imp (Nat.le_refl n) (fun _ _ _ => trivial) (fun q _ hlt => hB.out.block q hlt))
      clear hA
      go_wp2
      go_ret2
      exact ⟨_, rfl, HF.out, hB.out⟩
end Go.Proofs.Ytlefdkemgfjieaa.P
