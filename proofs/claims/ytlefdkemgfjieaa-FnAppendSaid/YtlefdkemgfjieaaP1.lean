/- sprig.mustPush, sprig.mustPrepend. -/
import Derived.Test.YtlefdkemgfjieaaC1
set_option linter.unusedVariables false
set_option linter.unusedSimpArgs false
namespace Go.Proofs.Ytlefdkemgfjieaa.P
open Go.RowKit Go.Proofs.YtlefdkemgfjieaaW.PrintWords Go.Proofs.YtlefdkemgfjieaaW.PrintLast Go.Proofs.YtlefdkemgfjieaaW.PrintMore
attribute [local go_sem] run_store_float

def encI : Option (TypeId × Value) → Value
  | none => .nilIface
  | some (t, q) => .iface t q
theorem encI_one (x : Option (TypeId × Value)) : (encI x).oneCell' = true := by
  cases x <;> rfl
theorem vals_enc : ∀ (vs : List Value), (∀ i, i < vs.length → vs.getD i .nilIface = .nilIface ∨ ∃ t u, vs.getD i .nilIface = .iface t u) → ∃ ys : List (Option (TypeId × Value)), vs = ys.map encI
  | [], _ => ⟨[], rfl⟩
  | v :: vs, h => by
    obtain ⟨ys, hys⟩ := vals_enc vs (fun i hi => h (i + 1) (by simpa using hi))
    rcases h 0 (by simp) with h0 | ⟨t, u, h0⟩
    · exact ⟨none :: ys, by rw [List.map_cons, ← hys]; exact congrArg (· :: vs) h0⟩
    · exact ⟨some (t, u) :: ys, by rw [List.map_cons, ← hys]; exact congrArg (· :: vs) h0⟩
theorem own_of_vals {n : Nat} {ok : Nat → Prop} {w0 w : World} {B : Nat} {v : Value} {l : List S26} {vs : List Value} (ho : w.ownsRow B 20 1 v l.length vs) (hl : vs.length = l.length) (hel : ∀ i, i < l.length → GoN n ok w0 (l.getD i z26) (vs.getD i .nilIface)) : OwnRow (Iface0 n ok w0) 20 1 w B v l := by
  refine ⟨vs, ho, by rw [hl, Nat.mul_one], fun j p hj => ?_⟩
  obtain ⟨hj2, hj3⟩ := List.getElem?_eq_some_iff.1 hj
  have h3 : j < vs.length := by omega
  refine ⟨vs.getD j .nilIface, ?_, ?_⟩
  · have h7 : vs.getD j .nilIface = vs[j] := by simp [h3]
    rw [Nat.mul_one, List.drop_eq_getElem_cons h3, h7]
    rfl
  · have h5 := hel j hj2
    have h6 : l.getD j z26 = p := by rw [List.getD_eq_getElem?_getD, hj]; rfl
    rw [h6] at h5
    exact h5
set_option maxHeartbeats 3200000 in
set_option maxRecDepth 100000 in
theorem mustPush_call {n : Nat} (l : List S26) (u : Value) (ok : Nat → Prop) (x : S26) (xv : Value) (w : World) (hl : l.length ≤ 300) (hr : RowOf (GoN n ok w) ok w l u) (hx : GoN n ok w x xv) :
    Calls Try.prog 79 #[.iface 77 u, xv] w fun e w' => ∃ u', e = .returned (.tuple #[u', .nilIface]) ∧ RowOf (GoN n (fun _ => True) w') (fun _ => True) w' (l ++ [x]) u' ∧ Below w.heap.size w w' := by
  obtain ⟨g, c, vs, rfl, hg, hvs, ho, hel⟩ := hr
  have hgl := (ho.lt g (by simp [Value.ownBlock])).2
  have HXV := Lib.hid hx
  clear hx
  have HO := Lib.hid ho
  have HE := Lib.hid hel
  have HVS := Lib.hid hvs
  have HGL := Lib.hid hgl
  have HZ := Lib.hid (zzList_call (.slice (some ⟨g, 0, none⟩) l.length c) w)
  have HMK := print_make_of (P := Try.prog) 77 20 .nilIface 16 Try.underlying77 info_any rfl (by decide) l.length (by omega)
  clear ho hel hvs hgl hg
  obtain ⟨N, hNN⟩ : ∃ N, N = l.length := ⟨_, rfl⟩
  have HN := Lib.hid hNN
  rw [← hNN] at hl HMK HZ HO ⊢
  clear hNN
  go_enter Try.func79, Try.ntmps79
  go_wp2_with fail
  refine HZ.out.mono ?_
  rintro e w1 ⟨rfl, hb1⟩
  have HB1 := Lib.hid hb1
  clear hb1 HZ
  have hmk := (madeCells #[Value.nilIface] N)
  have HA := Lib.hid (show ∃ arr : Array Value, (w1.alloc (.cells (madeCells #[.nilIface] N) 20)).heap[w1.heap.size]? = some (.cells arr 20 (0, 0)) ∧ arr.size = N ∧ ∀ j, j < 0 → arr[j]? = some (vs.getD j .nilIface) from ⟨_, heap_alloc_new w1 _, size_madeCells _ _, fun j hj => absurd hj (by omega)⟩)
  have HB2 := Lib.hid (HB1.out.alloc HB1.out.size (.cells (madeCells #[.nilIface] N) 20))
  have HS2 := Lib.hid (show w1.heap.size < (w1.alloc (.cells (madeCells #[.nilIface] N) 20)).heap.size by simp)
  have HLE := Lib.hid HB1.out.size
  clear hmk
  go_wp2
  go_loopw [10] (fun i wr => ∃ k : Nat, i = .int .i64 k ∧ k ≤ N ∧ Hid (∃ arr : Array Value, wr.heap[w1.heap.size]? = some (.cells arr 20 (0, 0)) ∧ arr.size = N ∧ ∀ j, j < k → arr[j]? = some (vs.getD j .nilIface)) ∧ Hid (Below w.heap.size w wr) ∧ Hid (w1.heap.size < wr.heap.size)) (fun i _ => N - (intOf i).toNat)
  case atStart => exact ⟨0, rfl, Nat.zero_le _, HA, HB2, HS2⟩
  case round =>
    clear HA HB2 HS2 HMK HB1
    obtain ⟨k, rfl, hk, hA, hB, hS⟩ := hrel
    by_cases ck : k < N
    · obtain ⟨arr, ha, hsz, hel⟩ := hA.out
      have hcell : wr.cell? ⟨g, k, none⟩ = some (vs.getD k .nilIface) := by
        have h1 : vs[k]? = some (vs.getD k .nilIface) := by rw [List.getD_eq_getElem?_getD, List.getElem?_eq_getElem (by rw [HVS.out, ← HN.out]; exact ck)]; rfl
        have h2 := HO.out.cells (g := g) (by simp [Value.ownBlock]) k _ h1
        rw [Addr.add_lit, Nat.zero_add] at h2
        exact (hB.out.cell HGL.out).trans h2
      have hz := blk_frozen ha k
      have hcl : wr.cell? ⟨w1.heap.size, k, none⟩ = some (arr.getD k .nilIface) := by
        rw [blk_cell ha k]
        simp [Array.getD, show k < arr.size by omega]
      have ci0 : (0 : Int) ≤ (k : Int) := by omega
      have ci1 : (k : Int) < (N : Int) := by omega
      have hsh := (HE.out k (by rw [← HN.out]; exact ck)).shape
      rcases hsh with hvv | ⟨t, q, hvv⟩
      · rw [hvv] at hcell
        go_wp2
        go_roundw
        case rel => exact ⟨k + 1, by go_num, by omega, Lib.hid ⟨_, blk_set ha k _, by rw [Array.size_setIfInBounds]; exact hsz, fun j hj => by
          by_cases hjk : j < k
          · rw [Array.getElem?_setIfInBounds_ne (by omega)]
            exact hel j hjk
          · have : j = k := by omega
            subst this
            rw [Array.getElem?_setIfInBounds_self_of_lt (by omega)]
            rw [hvv]⟩, Lib.hid (hB.out.setCell (by show w.heap.size ≤ w1.heap.size; exact HLE.out) _), Lib.hid (by simpa [World.setCell] using hS.out)⟩
        case measure => simp [intOf]; omega
      · rw [hvv] at hcell
        go_wp2
        go_roundw
        case rel => exact ⟨k + 1, by go_num, by omega, Lib.hid ⟨_, blk_set ha k _, by rw [Array.size_setIfInBounds]; exact hsz, fun j hj => by
          by_cases hjk : j < k
          · rw [Array.getElem?_setIfInBounds_ne (by omega)]
            exact hel j hjk
          · have : j = k := by omega
            subst this
            rw [Array.getElem?_setIfInBounds_self_of_lt (by omega)]
            rw [hvv]⟩, Lib.hid (hB.out.setCell (by show w.heap.size ≤ w1.heap.size; exact HLE.out) _), Lib.hid (by simpa [World.setCell] using hS.out)⟩
        case measure => simp [intOf]; omega
    · have hkn : k = N := by omega
      subst hkn
      have HOW := Lib.hid (show OwnRow (Iface0 n ok w) 20 1 wr w.heap.size (.slice (some ⟨w1.heap.size, 0, none⟩) k k) l by
        obtain ⟨arr, ha, hsz, hel⟩ := hA.out
        have hkl := HN.out
        refine ⟨arr.toList, ⟨by rw [← hkl, Array.length_toList, hsz, Nat.mul_one], .inr ⟨w1.heap.size, k, arr, by rw [← hkl], HLE.out, ha, by rw [← hkl]; exact Nat.le_refl _, by unfold maxLen; omega, by rw [hsz, Nat.mul_one], ?_⟩⟩, by rw [← hkl, Array.length_toList, hsz, Nat.mul_one], fun j p hj => ?_⟩
        · rw [← hkl, Nat.mul_one, List.take_of_length_le (by rw [Array.length_toList, hsz]; exact Nat.le_refl _)]
        · obtain ⟨hj2, hj3⟩ := List.getElem?_eq_some_iff.1 hj
          have h1 := hel j (by omega)
          have h2 : arr.toList[j]? = some (vs.getD j .nilIface) := by rw [Array.getElem?_toList]; exact h1
          obtain ⟨h3, h4⟩ := List.getElem?_eq_some_iff.1 h2
          refine ⟨vs.getD j .nilIface, ?_, ?_⟩
          · rw [Nat.mul_one, List.drop_eq_getElem_cons h3, h4]
            rfl
          · have h5 := HE.out j (by omega)
            have h6 : l.getD j z26 = p := by rw [List.getD_eq_getElem?_getD, hj]; rfl
            rw [h6] at h5
            exact h5)
      clear hA
      have hkl := HN.out
      have hsh := HXV.out.shape
      rcases hsh with rfl | ⟨t, q, rfl⟩
      all_goals
        go_wp2_with (at_builtin; first | (refine OwnRow.append (w0 := w) w.heap.size rfl _ _ 77 20 .nilIface 1 16 rfl Try.underlying77 info_any rfl (by decide) (by decide) (.slice (some ⟨w1.heap.size, 0, none⟩) k k) l x [.nilIface] rfl rfl ⟨_, rfl, HXV.out⟩ rfl (fun u hu => by rw [List.mem_singleton.1 hu]; rfl) HOW.out hB.out hB.out.size (by omega) ?_) | (refine OwnRow.append (w0 := w) w.heap.size rfl _ _ 77 20 .nilIface 1 16 rfl Try.underlying77 info_any rfl (by decide) (by decide) (.slice (some ⟨w1.heap.size, 0, none⟩) k k) l x [.iface t q] rfl rfl ⟨_, rfl, HXV.out⟩ rfl (fun u hu => by rw [List.mem_singleton.1 hu]; rfl) HOW.out hB.out hB.out.size (by omega) ?_))
        intro v1 w3 h1 hb3 hg3 hat3
        obtain ⟨g4, c4, rfl⟩ : ∃ g c, v1 = .slice (some ⟨g, 0, none⟩) (l ++ [x]).length c := by
          obtain ⟨inner, ho1, _⟩ := h1
          rcases ho1.2 with ⟨_, h⟩ | ⟨g', c', _, h, _⟩
          · simp at h
          · exact ⟨g', c', h⟩
        have hfin := rowOf_own h1 hb3
        rw [List.length_append, List.length_singleton] at hfin
        have HFIN := Lib.hid hfin
        clear hfin
        have HB3 := Lib.hid hb3
        clear h1 hb3 hg3 hat3
        go_wp2
        go_ret2
        exact ⟨_, rfl, HFIN.out, HB3.out⟩
set_option maxHeartbeats 3200000 in
set_option maxRecDepth 100000 in
theorem mustPrepend_call {n : Nat} (l : List S26) (u : Value) (ok : Nat → Prop) (x : S26) (xv : Value) (w : World) (hl : l.length ≤ 300) (hr : RowOf (GoN n ok w) ok w l u) (hx : GoN n ok w x xv) :
    Calls Try.prog 80 #[.iface 77 u, xv] w fun e w' => ∃ u', e = .returned (.tuple #[u', .nilIface]) ∧ RowOf (GoN n (fun _ => True) w') (fun _ => True) w' (x :: l) u' ∧ Below w.heap.size w w' := by
  obtain ⟨g, c, vs, rfl, hg, hvs, ho, hel⟩ := hr
  have hgl := (ho.lt g (by simp [Value.ownBlock])).2
  have HXV := Lib.hid hx
  clear hx
  have HO := Lib.hid ho
  have HE := Lib.hid hel
  have HVS := Lib.hid hvs
  have HGL := Lib.hid hgl
  have HZ := Lib.hid (zzList_call (.slice (some ⟨g, 0, none⟩) l.length c) w)
  have HMK := print_make_of (P := Try.prog) 77 20 .nilIface 16 Try.underlying77 info_any rfl (by decide) l.length (by omega)
  clear ho hel hvs hgl hg
  obtain ⟨N, hNN⟩ : ∃ N, N = l.length := ⟨_, rfl⟩
  have HN := Lib.hid hNN
  rw [← hNN] at hl HMK HZ HO ⊢
  clear hNN
  go_enter Try.func80, Try.ntmps80
  go_wp2_with fail
  refine HZ.out.mono ?_
  rintro e w1 ⟨rfl, hb1⟩
  have HB1 := Lib.hid hb1
  clear hb1 HZ
  have hmk := (madeCells #[Value.nilIface] N)
  have HA := Lib.hid (show ∃ arr : Array Value, (w1.alloc (.cells (madeCells #[.nilIface] N) 20)).heap[w1.heap.size]? = some (.cells arr 20 (0, 0)) ∧ arr.size = N ∧ ∀ j, j < 0 → arr[j]? = some (vs.getD j .nilIface) from ⟨_, heap_alloc_new w1 _, size_madeCells _ _, fun j hj => absurd hj (by omega)⟩)
  have HB2 := Lib.hid (HB1.out.alloc HB1.out.size (.cells (madeCells #[.nilIface] N) 20))
  have HS2 := Lib.hid (show w1.heap.size < (w1.alloc (.cells (madeCells #[.nilIface] N) 20)).heap.size by simp)
  have HLE := Lib.hid HB1.out.size
  clear hmk
  go_wp2
  go_loopw [10] (fun i wr => ∃ k : Nat, i = .int .i64 k ∧ k ≤ N ∧ Hid (∃ arr : Array Value, wr.heap[w1.heap.size]? = some (.cells arr 20 (0, 0)) ∧ arr.size = N ∧ ∀ j, j < k → arr[j]? = some (vs.getD j .nilIface)) ∧ Hid (Below w.heap.size w wr) ∧ Hid (w1.heap.size < wr.heap.size)) (fun i _ => N - (intOf i).toNat)
  case atStart => exact ⟨0, rfl, Nat.zero_le _, HA, HB2, HS2⟩
  case round =>
    clear HA HB2 HS2 HMK HB1
    obtain ⟨k, rfl, hk, hA, hB, hS⟩ := hrel
    by_cases ck : k < N
    · obtain ⟨arr, ha, hsz, hel⟩ := hA.out
      have hcell : wr.cell? ⟨g, k, none⟩ = some (vs.getD k .nilIface) := by
        have h1 : vs[k]? = some (vs.getD k .nilIface) := by rw [List.getD_eq_getElem?_getD, List.getElem?_eq_getElem (by rw [HVS.out, ← HN.out]; exact ck)]; rfl
        have h2 := HO.out.cells (g := g) (by simp [Value.ownBlock]) k _ h1
        rw [Addr.add_lit, Nat.zero_add] at h2
        exact (hB.out.cell HGL.out).trans h2
      have hz := blk_frozen ha k
      have hcl : wr.cell? ⟨w1.heap.size, k, none⟩ = some (arr.getD k .nilIface) := by
        rw [blk_cell ha k]
        simp [Array.getD, show k < arr.size by omega]
      have ci0 : (0 : Int) ≤ (k : Int) := by omega
      have ci1 : (k : Int) < (N : Int) := by omega
      have hsh := (HE.out k (by rw [← HN.out]; exact ck)).shape
      rcases hsh with hvv | ⟨t, q, hvv⟩
      · rw [hvv] at hcell
        go_wp2
        go_roundw
        case rel => exact ⟨k + 1, by go_num, by omega, Lib.hid ⟨_, blk_set ha k _, by rw [Array.size_setIfInBounds]; exact hsz, fun j hj => by
          by_cases hjk : j < k
          · rw [Array.getElem?_setIfInBounds_ne (by omega)]
            exact hel j hjk
          · have : j = k := by omega
            subst this
            rw [Array.getElem?_setIfInBounds_self_of_lt (by omega)]
            rw [hvv]⟩, Lib.hid (hB.out.setCell (by show w.heap.size ≤ w1.heap.size; exact HLE.out) _), Lib.hid (by simpa [World.setCell] using hS.out)⟩
        case measure => simp [intOf]; omega
      · rw [hvv] at hcell
        go_wp2
        go_roundw
        case rel => exact ⟨k + 1, by go_num, by omega, Lib.hid ⟨_, blk_set ha k _, by rw [Array.size_setIfInBounds]; exact hsz, fun j hj => by
          by_cases hjk : j < k
          · rw [Array.getElem?_setIfInBounds_ne (by omega)]
            exact hel j hjk
          · have : j = k := by omega
            subst this
            rw [Array.getElem?_setIfInBounds_self_of_lt (by omega)]
            rw [hvv]⟩, Lib.hid (hB.out.setCell (by show w.heap.size ≤ w1.heap.size; exact HLE.out) _), Lib.hid (by simpa [World.setCell] using hS.out)⟩
        case measure => simp [intOf]; omega
    · have hkn : k = N := by omega
      subst hkn
      have hkl := HN.out
      have hRO : ∃ ys : List (Option (TypeId × Value)), vs = ys.map encI := vals_enc vs (fun i hi => (HE.out i (by have := HVS.out; omega)).shape)
      obtain ⟨ys, hys⟩ := hRO
      obtain ⟨x0, hx0⟩ : ∃ x0, xv = encI x0 := by
        rcases HXV.out.shape with h | ⟨t, q, h⟩
        · exact ⟨none, h⟩
        · exact ⟨some (t, q), h⟩
      have hyl : ys.length = k := by have h1 := HVS.out; rw [hys, List.length_map] at h1; omega
      have HRD := Lib.hid (show ReadsOf encI none (wr.alloc (.cells #[xv] 20)) (some ⟨w1.heap.size, 0, none⟩) k ys by
        obtain ⟨arr, ha, hsz, hel⟩ := hA.out
        refine ⟨hyl, by omega, fun _ => ⟨_, rfl, fun j hj => ?_⟩⟩
        have h1 := hel j hj
        have h2 : vs.getD j .nilIface = encI (ys.getD j none) := by
          rw [hys, List.getD_eq_getElem?_getD, List.getD_eq_getElem?_getD, List.getElem?_map]
          rw [List.getElem?_eq_getElem (by omega)]
          rfl
        rw [← h2, Addr.add_lit, Nat.zero_add, blk_cell (blk_alloc ha _) j]
        exact h1)
      have HOX := Lib.hid (show (wr.alloc (.cells #[xv] 20)).ownsRow w.heap.size 20 1 (.slice (some ⟨wr.heap.size, 0, none⟩) 1 1) [x0].length (encs encI [x0]) by
        have := World.ownsRow_lit (base := w.heap.size) (e := 20) (size := 1) wr #[xv] 1 hB.out.size (by decide) rfl
        rw [hx0] at this ⊢
        exact this)
      have HBA := Lib.hid (hB.out.alloc hB.out.size (.cells #[xv] 20))
      have HSA := Lib.hid (show w.heap.size ≤ (wr.alloc (.cells #[xv] 20)).heap.size from HBA.out.size)
      have HYS := Lib.hid hys
      have HX0 := Lib.hid hx0
      have HYL := Lib.hid hyl
      clear hys hx0 hyl hA
      rcases HXV.out.shape with hsv | ⟨t, q, hsv⟩
      all_goals
        rw [hsv] at HRD HOX HBA HSA HX0
        rw [hsv]
        go_wp2_with (at_builtin; refine print_append_row_of (w0 := w) encI none w.heap.size rfl _ _ 77 20 .nilIface 16 rfl Try.underlying77 info_any rfl (by decide) encI_one (.slice (some ⟨wr.heap.size, 0, none⟩) 1 1) [x0] ys (some ⟨w1.heap.size, 0, none⟩) k k rfl rfl HOX.out HRD.out HBA.out HSA.out (by simp; omega) ?_)
        intro v1 w3 h1 hb3 hg3 hat3
        have hen : encs encI (x0 :: ys) = xv :: vs := by
          rw [hsv, HX0.out, HYS.out]
          rfl
        have hnl : ys.length + 1 = (x :: l).length := by simp [HYL.out, ← hkl]
        rw [hen, hnl] at h1
        have hown := own_of_vals (n := n) (ok := ok) (w0 := w) (l := x :: l) h1 (by simp [HVS.out]) (fun i hi => by
          cases i with
          | zero => exact HXV.out
          | succ i => exact HE.out i (by simpa using hi))
        obtain ⟨g4, c4, rfl⟩ : ∃ g c, v1 = .slice (some ⟨g, 0, none⟩) (x :: l).length c := by
          rcases h1.2 with ⟨_, h⟩ | ⟨g', c', _, h, _⟩
          · simp at h
          · exact ⟨g', c', h⟩
        have hfin := rowOf_own hown hb3
        rw [List.length_cons] at hfin
        have HFIN := Lib.hid hfin
        have HB3 := Lib.hid hb3
        clear h1 hb3 hg3 hat3 hfin hown hen hnl
        simp only [List.length_cons]
        go_wp2
        go_ret2
        exact ⟨_, rfl, HFIN.out, HB3.out⟩
end Go.Proofs.Ytlefdkemgfjieaa.P
