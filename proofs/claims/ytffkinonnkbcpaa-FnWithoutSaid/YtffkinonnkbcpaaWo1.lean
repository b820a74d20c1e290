/- sprig.inList, mustWithout, Without. -/
import Derived.Test.YtffkinonnkbcpaaR3
import Derived.Test.YtffkinonnkbcpaaEq5
set_option linter.unusedVariables false
set_option linter.unusedSimpArgs false
namespace Go.Proofs.Ytffkinonnkbcpaa.P
open Go.RowKit Go.Proofs.YtffkinonnkbcpaaW.PrintWords Go.Proofs.YtffkinonnkbcpaaW.PrintLast Go.Proofs.YtffkinonnkbcpaaW.PrintMore
attribute [local go_sem] run_store_float

/-- An interface value that was x in world w0. -/
def Iface0 (n : Nat) (ok : Nat → Prop) (w0 : World) (x : S31) (cs : List Value) : Prop := ∃ v, cs = [v] ∧ GoN n ok w0 x v
theorem take_filter {α : Type} (l : List α) (p : α → Bool) (k : Nat) (h : k < l.length) : (l.take (k + 1)).filter p = (l.take k).filter p ++ (if p l[k] then [l[k]] else []) := by
  rw [List.take_succ_eq_append_getElem h, List.filter_append]
  congr 1
  cases hp : p l[k] <;> simp [hp]
/-- A row of such values is a row of values. -/
theorem rowOf_own {n : Nat} {ok : Nat → Prop} {w0 wr : World} {B g c : Nat} {xs : List S31} (h : OwnRow (Iface0 n ok w0) 20 1 wr B (.slice (some ⟨g, 0, none⟩) xs.length c) xs) (hb : Below w0.heap.size w0 wr) : RowOf (GoN n (fun _ => True) wr) (fun _ => True) wr xs (.slice (some ⟨g, 0, none⟩) xs.length c) := by
  obtain ⟨inner, ho, hr⟩ := h
  have hlen : inner.length = xs.length := by have := hr.1; omega
  refine ⟨g, c, inner, rfl, trivial, hlen, ?_, fun i hi => ?_⟩
  · obtain ⟨h1, h2⟩ := ho
    refine ⟨h1, ?_⟩
    rcases h2 with h2 | ⟨g', cap, cur, h3, h4, h5⟩
    · exact .inl h2
    · exact .inr ⟨g', cap, cur, h3, Nat.zero_le _, h5⟩
  · obtain ⟨v, hv, hgo⟩ := hr.2 i (xs.getD i z31) (by rw [List.getD_eq_getElem?_getD, List.getElem?_eq_getElem hi]; rfl)
    rw [Nat.mul_one] at hv
    have h6 : inner.getD i .nilIface = v := by
      have hi2 : i < inner.length := by omega
      have h8 := congrArg (fun q => q[0]?) hv
      have h7 : inner[i]? = some v := by simpa using h8
      rw [List.getD_eq_getElem?_getD, h7]
      rfl
    rw [h6]
    exact (hgo.below hb).ok (fun _ _ _ => trivial)
/-- A value is in a list. -/
def hasP (n : Nat) (om : List S31) (x : S31) : Prop := ∃ j, j < om.length ∧ SameP n (om.getD j z31) x
set_option maxHeartbeats 3200000 in
set_option maxRecDepth 100000 in
theorem inList_call {n : Nat} (om : List S31) (q : Value) (x : S31) (v : Value) (ok ok' : Nat → Prop) (w : World) (hom : ∀ i, i < om.length → rightN n (om.getD i z31)) (hb : om.length ≤ 1000) (hx : rightN n x) (hfx : finN n x) (hq : RowOf (GoN n ok' w) ok' w om q) (hv : GoN n ok w x v) :
    Calls Try.prog 41 #[q, v] w (BoolPost (hasP n om x) w) := by
  obtain ⟨g, c, vs, rfl, hg, hvs, ho, hel⟩ := hq
  have HGL := Lib.hid (ho.lt g (by simp [Value.ownBlock])).2
  have HO := Lib.hid ho
  have HE := Lib.hid hel
  have HVS := Lib.hid hvs
  have HC := Lib.hid (fun (k : Nat) (hk : k < om.length) (W : World) (hb : Below w.heap.size w W) => eq_all n x (om.getD k z31) v (vs.getD k .nilIface) ok ok' W hx (hom k hk) hfx (hv.below hb) ((hel k hk).below hb))
  clear hom hx hfx hv hg hvs ho hel
  go_enter Try.func41, Try.ntmps41
  go_wp2
  go_loopw [9] (fun i wr => ∃ k : Nat, i = .int .i64 k ∧ k ≤ om.length ∧ Hid (∀ j, j < k → ¬ SameP n (om.getD j z31) x) ∧ Hid (Below w.heap.size w wr)) (fun i _ => om.length - (intOf i).toNat)
  case atStart => exact ⟨0, rfl, Nat.zero_le _, Lib.hid (fun j hj => absurd hj (Nat.not_lt_zero _)), Lib.hid (Below.refl _ _)⟩
  case round =>
    obtain ⟨k, rfl, hk, hP, hB⟩ := hrel
    by_cases ck : k < om.length
    · have hcell : wr.cell? ⟨g, k, none⟩ = some (vs.getD k .nilIface) := by
        have h1 : vs[k]? = some (vs.getD k .nilIface) := by rw [List.getD_eq_getElem?_getD, List.getElem?_eq_getElem (by rw [HVS.out]; exact ck)]; rfl
        have h2 := HO.out.cells (g := g) (by simp [Value.ownBlock]) k _ h1
        rw [Addr.add_lit, Nat.zero_add] at h2
        exact (hB.out.cell HGL.out).trans h2
      have ci0 : (0 : Int) ≤ (k : Int) := by omega
      have ci1 : (k : Int) < (om.length : Int) := by omega
      have HCK := Lib.hid (HC.out k ck wr hB.out)
      generalize vs.getD k .nilIface = u at *
      go_wp2_with fail
      refine HCK.out.mono ?_
      rintro e w2 ⟨r, rfl, hr, hb2⟩
      have HB2 := Lib.hid (hB.out.trans (hb2.mono hB.out.size))
      have HRR := Lib.hid hr
      clear hr hb2 HCK hB hcell
      cases r with
      | true =>
        have HT := Lib.hid (show hasP n om x from ⟨k, ck, HRR.out.1 rfl⟩)
        clear HRR hP
        go_wp2
        go_ret
        exact ⟨true, rfl, ⟨fun _ => HT.out, fun _ => rfl⟩, HB2.out⟩
      | false =>
        have HP2 := Lib.hid (show ∀ j, j < k + 1 → ¬ SameP n (om.getD j z31) x from fun j hj => by
          by_cases hjk : j < k
          · exact hP.out j hjk
          · have : j = k := by omega
            subst this
            exact fun h => by have := HRR.out.2 h; cases this)
        clear HRR hP
        go_wp2
        go_roundw
        case rel => exact ⟨k + 1, by go_num, by omega, HP2, HB2⟩
        case measure => simp [intOf]; omega
    · have HF := Lib.hid (show ¬ hasP n om x from fun ⟨j, hj, h⟩ => hP.out j (by omega) h)
      clear hP
      go_wp2
      go_ret
      exact ⟨false, rfl, ⟨(fun h => by cases h), fun h => absurd h HF.out⟩, hB.out⟩
set_option maxHeartbeats 3200000 in
set_option maxRecDepth 100000 in
theorem mustWithout_call {n : Nat} (f : S31 → Bool) (om : List S31) (hff : ∀ x, f x = true ↔ ¬ hasP n om x) (l : List S31) (u q : Value) (ok ok' : Nat → Prop) (w : World) (hf : ∀ i, i < l.length → rightN n (l.getD i z31) ∧ finN n (l.getD i z31)) (hom : ∀ i, i < om.length → rightN n (om.getD i z31)) (hol : om.length ≤ 1000) (hq : RowOf (GoN n ok' w) ok' w om q) (hl : l.length ≤ 300) (hr : RowOf (GoN n ok w) ok w l u) :
    Calls Try.prog 33 #[.iface 43 u, q] w fun e w' => ∃ u', e = .returned (.tuple #[u', .nilIface]) ∧ RowOf (GoN n (fun _ => True) w') (fun _ => True) w' (l.filter f) u' ∧ Below w.heap.size w w' := by
  obtain ⟨g, c, vs, rfl, hg, hvs, ho, hel⟩ := hr
  have hgl := (ho.lt g (by simp [Value.ownBlock])).2
  have HF := Lib.hid hf
  have HQ := Lib.hid hq
  have HOM := Lib.hid hom
  have HFF := Lib.hid hff
  have HO := Lib.hid ho
  have HE := Lib.hid hel
  have HVS := Lib.hid hvs
  have HGL := Lib.hid hgl
  have HZ := Lib.hid (zzList_call (.slice (some ⟨g, 0, none⟩) l.length c) w)
  clear ho hel hvs hgl hg hf hq hom hff
  obtain ⟨N, hNN⟩ : ∃ N, N = l.length := ⟨_, rfl⟩
  have HN := Lib.hid hNN
  rw [← hNN] at hl HZ HO ⊢
  clear hNN
  go_enter Try.func33, Try.ntmps33
  go_wp2_with fail
  refine HZ.out.mono ?_
  rintro e w1 ⟨rfl, hb1⟩
  have HB1 := Lib.hid hb1
  clear hb1 HZ
  have HR1 := Lib.hid (show OwnRow (Iface0 n ok w) 20 1 (w1.alloc (.cells #[] 20)) w.heap.size (.slice (some ⟨w1.heap.size, 0, none⟩) 0 0) [] from OwnRow.lit (inner := []) w1 w.heap.size (Reps.none _ _) HB1.out.size (by decide))
  have HB2 := Lib.hid (HB1.out.alloc HB1.out.size (.cells #[] 20))
  go_wp2
  go_loopw [9, 10, 11] (fun v _ i wr => ∃ (k g3 c3 : Nat) (xs : List S31), i = .int .i64 k ∧ v = .slice (some ⟨g3, 0, none⟩) xs.length c3 ∧ k ≤ N ∧ Hid (xs = (l.take k).filter f) ∧ Hid (xs.length ≤ k) ∧ Hid (OwnRow (Iface0 n ok w) 20 1 wr w.heap.size v xs) ∧ Hid (Below w.heap.size w wr)) (fun _ _ i _ => N - (intOf i).toNat)
  case atStart => exact ⟨0, _, _, [], rfl, rfl, Nat.zero_le _, Lib.hid (by simp), Lib.hid (Nat.le_refl _), HR1, HB2⟩
  case round =>
    clear HR1 HB1 HB2
    obtain ⟨k, g3, c3, xs, rfl, rfl, hk, hxs, hxl, hR, hB⟩ := hrel
    by_cases ck : k < N
    · have hcell : wr.cell? ⟨g, k, none⟩ = some (vs.getD k .nilIface) := by
        have h1 : vs[k]? = some (vs.getD k .nilIface) := by rw [List.getD_eq_getElem?_getD, List.getElem?_eq_getElem (by rw [HVS.out, ← HN.out]; exact ck)]; rfl
        have h2 := HO.out.cells (g := g) (by simp [Value.ownBlock]) k _ h1
        rw [Addr.add_lit, Nat.zero_add] at h2
        exact (hB.out.cell HGL.out).trans h2
      have hkl : k < l.length := by rw [← HN.out]; exact ck
      have hgo := HE.out k hkl
      have hfk := HF.out k hkl
      have hgd : l.getD k z31 = l[k] := by simp [hkl]
      have HTF := Lib.hid (take_filter l f k hkl)
      rw [hgd] at hgo hfk
      have HEM := Lib.hid (fun (W : World) (hb : Below w.heap.size w W) => inList_call om q _ _ ok ok' W HOM.out hol hfk.1 hfk.2 (HQ.out.below hb) (hgo.below hb))
      have HGO := Lib.hid hgo
      have hsh := hgo.shape
      have ci0 : (0 : Int) ≤ (k : Int) := by omega
      have ci1 : (k : Int) < (N : Int) := by omega
      clear hgo hfk hgd
      generalize l[k] = x at *
      generalize vs.getD k .nilIface = v at *
      have HCL := Lib.hid hcell
      go_wp2_with fail
      refine (HEM.out wr hB.out).mono ?_
      rintro e w2 ⟨r, rfl, hr, hb2⟩
      have hfr : f x = !r := by
        have h1 := HFF.out x
        cases r with
        | true => have h2 := hr.1 rfl; cases hfx : f x with
          | false => rfl
          | true => exact absurd h2 (h1.1 hfx)
        | false => cases hfx : f x with
          | true => rfl
          | false => exact absurd (h1.2 (fun h => by have := hr.2 h; cases this)) (by rw [hfx]; decide)
      have HFR := Lib.hid hfr
      clear hfr hr
      have HB2 := Lib.hid (hB.out.trans (hb2.mono hB.out.size))
      have HR2 := Lib.hid (OwnRow.below hR.out hb2)
      clear hcell HCL hb2 HEM hR hB
      cases he : r with
      | true =>
        have HX2 := Lib.hid (show xs = (l.take (k + 1)).filter f by rw [HTF.out, show f x = false by rw [HFR.out, he]; rfl, ← hxs.out]; simp)
        clear HFR HTF hxs
        go_wp2
        go_roundw
        case rel => exact ⟨k + 1, g3, c3, xs, by go_num, rfl, by omega, HX2, Lib.hid (by have := hxl.out; omega), HR2, HB2⟩
        case measure => simp [intOf]; omega
      | false =>
        have HX2 := Lib.hid (show xs ++ [x] = (l.take (k + 1)).filter f by rw [HTF.out, show f x = true by rw [HFR.out, he]; rfl, ← hxs.out]; simp)
        clear HFR HTF hxs
        rcases hsh with rfl | ⟨t, q, rfl⟩
        all_goals
          go_wp2_with (at_builtin; first | (refine OwnRow.append (w0 := w) w.heap.size rfl _ _ 43 20 .nilIface 1 16 rfl Try.underlying43 info_any rfl (by decide) (by decide) (.slice (some ⟨g3, 0, none⟩) xs.length c3) xs x [.nilIface] rfl rfl ⟨_, rfl, HGO.out⟩ rfl (fun u hu => by rw [List.mem_singleton.1 hu]; rfl) HR2.out HB2.out HB2.out.size (by have := hxl.out; omega) ?_) | (refine OwnRow.append (w0 := w) w.heap.size rfl _ _ 43 20 .nilIface 1 16 rfl Try.underlying43 info_any rfl (by decide) (by decide) (.slice (some ⟨g3, 0, none⟩) xs.length c3) xs x [.iface t q] rfl rfl ⟨_, rfl, HGO.out⟩ rfl (fun u hu => by rw [List.mem_singleton.1 hu]; rfl) HR2.out HB2.out HB2.out.size (by have := hxl.out; omega) ?_))
          intro v1 w3 h1 hb3 hg3 hat3
          obtain ⟨g4, c4, rfl⟩ : ∃ g c, v1 = .slice (some ⟨g, 0, none⟩) (xs ++ [x]).length c := by
            obtain ⟨inner, ho1, _⟩ := h1
            rcases ho1.2 with ⟨_, h⟩ | ⟨g', c', _, h, _⟩
            · simp at h
            · exact ⟨g', c', h⟩
          have HR3 := Lib.hid h1
          have HB3 := Lib.hid hb3
          clear h1 hb3 hg3 hat3
          go_wp2
          go_roundw
          case rel => exact ⟨k + 1, g4, c4, xs ++ [x], by go_num, rfl, by omega, HX2, Lib.hid (by have := hxl.out; simp; omega), HR3, HB3⟩
          case measure => simp [intOf]; omega
    · have hkn : k = N := by omega
      subst hkn
      have HFIN := Lib.hid (show RowOf (GoN n (fun _ => True) wr) (fun _ => True) wr (l.filter f) (.slice (some ⟨g3, 0, none⟩) xs.length c3) by
        have h1 : l.filter f = xs := by rw [hxs.out, HN.out, List.take_length]
        rw [h1]
        exact rowOf_own hR.out hB.out)
      clear hR
      go_wp2
      go_ret2
      exact ⟨_, rfl, HFIN.out, hB.out⟩
set_option maxHeartbeats 3200000 in
set_option maxRecDepth 100000 in
theorem sprigWithout_call {n : Nat} (f : S31 → Bool) (om : List S31) (hff : ∀ x, f x = true ↔ ¬ hasP n om x) (l : List S31) (u q : Value) (ok ok' : Nat → Prop) (w : World) (hf : ∀ i, i < l.length → rightN n (l.getD i z31) ∧ finN n (l.getD i z31)) (hom : ∀ i, i < om.length → rightN n (om.getD i z31)) (hol : om.length ≤ 1000) (hq : RowOf (GoN n ok' w) ok' w om q) (hl : l.length ≤ 300) (hr : RowOf (GoN n ok w) ok w l u) :
    Calls Try.prog 19 #[.iface 43 u, q] w fun e w' => ∃ u', e = .returned (.tuple #[u', .nilIface]) ∧ RowOf (GoN n (fun _ => True) w') (fun _ => True) w' (l.filter f) u' ∧ Below w.heap.size w w' := by
  have HM := Lib.hid (mustWithout_call f om hff l u q ok ok' w hf hom hol hq hl hr)
  clear hf hom hq hr hff
  go_enter Try.func19, Try.ntmps19
  go_wp2_with fail
  refine HM.out.mono ?_
  rintro e w1 ⟨u', rfl, hr1, hb1⟩
  have HR1 := Lib.hid hr1
  have HB1 := Lib.hid hb1
  clear hr1 hb1 HM
  go_wp2
  go_ret2
  exact ⟨_, rfl, HR1.out, HB1.out⟩
end Go.Proofs.Ytffkinonnkbcpaa.P
