/- sprig.mustCompact: a row without its empty values. -/
import Derived.Test.YtlefdkemgfjieaaR3
import Derived.Test.YtlefdkemgfjieaaD1
set_option linter.unusedVariables false
set_option linter.unusedSimpArgs false
namespace Go.Proofs.Ytlefdkemgfjieaa.P
open Go.RowKit Go.Proofs.YtlefdkemgfjieaaW.PrintWords Go.Proofs.YtlefdkemgfjieaaW.PrintLast Go.Proofs.YtlefdkemgfjieaaW.PrintMore
attribute [local go_sem] run_store_float

/-- What stays. -/
def fullB (x : S26) : Bool := !emptyB x
/-- An interface value that was x in world w0. -/
def Iface0 (n : Nat) (ok : Nat → Prop) (w0 : World) (x : S26) (cs : List Value) : Prop := ∃ v, cs = [v] ∧ GoN n ok w0 x v
theorem take_filter {α : Type} (l : List α) (p : α → Bool) (k : Nat) (h : k < l.length) : (l.take (k + 1)).filter p = (l.take k).filter p ++ (if p l[k] then [l[k]] else []) := by
  rw [List.take_succ_eq_append_getElem h, List.filter_append]
  congr 1
  cases hp : p l[k] <;> simp [hp]
/-- A row of such values is a row of values. -/
theorem rowOf_own {n : Nat} {ok : Nat → Prop} {w0 wr : World} {B g c : Nat} {xs : List S26} (h : OwnRow (Iface0 n ok w0) 20 1 wr B (.slice (some ⟨g, 0, none⟩) xs.length c) xs) (hb : Below w0.heap.size w0 wr) : RowOf (GoN n (fun _ => True) wr) (fun _ => True) wr xs (.slice (some ⟨g, 0, none⟩) xs.length c) := by
  obtain ⟨inner, ho, hr⟩ := h
  have hlen : inner.length = xs.length := by have := hr.1; omega
  refine ⟨g, c, inner, rfl, trivial, hlen, ?_, fun i hi => ?_⟩
  · obtain ⟨h1, h2⟩ := ho
    refine ⟨h1, ?_⟩
    rcases h2 with h2 | ⟨g', cap, cur, h3, h4, h5⟩
    · exact .inl h2
    · exact .inr ⟨g', cap, cur, h3, Nat.zero_le _, h5⟩
  · obtain ⟨v, hv, hgo⟩ := hr.2 i (xs.getD i z26) (by rw [List.getD_eq_getElem?_getD, List.getElem?_eq_getElem hi]; rfl)
    rw [Nat.mul_one] at hv
    have h6 : inner.getD i .nilIface = v := by
      have hi2 : i < inner.length := by omega
      have h8 := congrArg (fun q => q[0]?) hv
      have h7 : inner[i]? = some v := by simpa using h8
      rw [List.getD_eq_getElem?_getD, h7]
      rfl
    rw [h6]
    exact (hgo.below hb).ok (fun _ _ _ => trivial)
set_option maxHeartbeats 3200000 in
set_option maxRecDepth 100000 in
theorem mustCompact_call {n : Nat} (l : List S26) (u : Value) (ok : Nat → Prop) (w : World) (hf : ∀ i, i < l.length → fitsN n (l.getD i z26)) (hl : l.length ≤ 300) (hr : RowOf (GoN n ok w) ok w l u) :
    Calls Try.prog 81 #[.iface 77 u] w fun e w' => ∃ u', e = .returned (.tuple #[u', .nilIface]) ∧ RowOf (GoN n (fun _ => True) w') (fun _ => True) w' (l.filter fullB) u' ∧ Below w.heap.size w w' := by
  obtain ⟨g, c, vs, rfl, hg, hvs, ho, hel⟩ := hr
  have hgl := (ho.lt g (by simp [Value.ownBlock])).2
  have HF := Lib.hid hf
  have HO := Lib.hid ho
  have HE := Lib.hid hel
  have HVS := Lib.hid hvs
  have HGL := Lib.hid hgl
  have HZ := Lib.hid (zzList_call (.slice (some ⟨g, 0, none⟩) l.length c) w)
  clear ho hel hvs hgl hg hf
  obtain ⟨N, hNN⟩ : ∃ N, N = l.length := ⟨_, rfl⟩
  have HN := Lib.hid hNN
  rw [← hNN] at hl HZ HO ⊢
  clear hNN
  go_enter Try.func81, Try.ntmps81
  go_wp2_with fail
  refine HZ.out.mono ?_
  rintro e w1 ⟨rfl, hb1⟩
  have HB1 := Lib.hid hb1
  clear hb1 HZ
  have HR1 := Lib.hid (show OwnRow (Iface0 n ok w) 20 1 (w1.alloc (.cells #[] 20)) w.heap.size (.slice (some ⟨w1.heap.size, 0, none⟩) 0 0) [] from OwnRow.lit (inner := []) w1 w.heap.size (Reps.none _ _) HB1.out.size (by decide))
  have HB2 := Lib.hid (HB1.out.alloc HB1.out.size (.cells #[] 20))
  go_wp2
  go_loopw [7, 8, 9] (fun v _ i wr => ∃ (k g3 c3 : Nat) (xs : List S26), i = .int .i64 k ∧ v = .slice (some ⟨g3, 0, none⟩) xs.length c3 ∧ k ≤ N ∧ Hid (xs = (l.take k).filter fullB) ∧ Hid (xs.length ≤ k) ∧ Hid (OwnRow (Iface0 n ok w) 20 1 wr w.heap.size v xs) ∧ Hid (Below w.heap.size w wr)) (fun _ _ i _ => N - (intOf i).toNat)
  case atStart => exact ⟨0, _, _, [], rfl, rfl, Nat.zero_le _, Lib.hid (by simp), Lib.hid (Nat.le_refl _), HR1, HB2⟩
  case round =>
    clear HR1 HB1 HB2
    obtain ⟨k, g3, c3, xs, rfl, rfl, hk, hxs, hxl, hR, hB⟩ := hrel
    by_cases ck : k < N
    · have hcell : wr.cell? ⟨g, k, none⟩ = some (vs.getD k .nilIface) := by
        have h1 : vs[k]? = some (vs.getD k .nilIface) := by rw [List.getD_eq_getElem?_getD, List.getElem?_eq_getElem (by rw [HVS.out, ← HN.out]; exact ck)]; rfl
        have h2 := HO.out.cells (g := g) (by simp [Value.ownBlock]) k _ h1
        rw [Addr.add_lit, Nat.zero_add] at h2
        exact (hB.out.cell HGL.out).trans h2
      have hkl : k < l.length := by rw [← HN.out]; exact ck
      have hgo := HE.out k hkl
      have hfk := HF.out k hkl
      have hgd : l.getD k z26 = l[k] := by simp [hkl]
      have HTF := Lib.hid (take_filter l fullB k hkl)
      rw [hgd] at hgo hfk
      have HEM := Lib.hid (fun (W : World) (hb : Below w.heap.size w W) => empty_call hfk (hgo.below hb))
      have HGO := Lib.hid hgo
      have hsh := hgo.shape
      have ci0 : (0 : Int) ≤ (k : Int) := by omega
      have ci1 : (k : Int) < (N : Int) := by omega
      clear hgo hfk hgd
      generalize l[k] = x at *
      generalize vs.getD k .nilIface = v at *
      have HCL := Lib.hid hcell
      go_wp2_with fail
      refine (HEM.out wr hB.out).mono ?_
      rintro e w2 ⟨rfl, hb2⟩
      have HB2 := Lib.hid (hB.out.trans (hb2.mono hB.out.size))
      have HR2 := Lib.hid (OwnRow.below hR.out hb2)
      clear hcell HCL hb2 HEM hR hB
      cases he : emptyB x with
      | true =>
        have HX2 := Lib.hid (show xs = (l.take (k + 1)).filter fullB by rw [HTF.out, show fullB x = false by simp [fullB, he], ← hxs.out]; simp)
        clear he HTF hxs
        go_wp2
        go_roundw
        case rel => exact ⟨k + 1, g3, c3, xs, by go_num, rfl, by omega, HX2, Lib.hid (by have := hxl.out; omega), HR2, HB2⟩
        case measure => simp [intOf]; omega
      | false =>
        have HX2 := Lib.hid (show xs ++ [x] = (l.take (k + 1)).filter fullB by rw [HTF.out, show fullB x = true by simp [fullB, he], ← hxs.out]; simp)
        clear he HTF hxs
        rcases hsh with rfl | ⟨t, q, rfl⟩
        all_goals
          go_wp2_with (at_builtin; first | (refine OwnRow.append (w0 := w) w.heap.size rfl _ _ 77 20 .nilIface 1 16 rfl Try.underlying77 info_any rfl (by decide) (by decide) (.slice (some ⟨g3, 0, none⟩) xs.length c3) xs x [.nilIface] rfl rfl ⟨_, rfl, HGO.out⟩ rfl (fun u hu => by rw [List.mem_singleton.1 hu]; rfl) HR2.out HB2.out HB2.out.size (by have := hxl.out; omega) ?_) | (refine OwnRow.append (w0 := w) w.heap.size rfl _ _ 77 20 .nilIface 1 16 rfl Try.underlying77 info_any rfl (by decide) (by decide) (.slice (some ⟨g3, 0, none⟩) xs.length c3) xs x [.iface t q] rfl rfl ⟨_, rfl, HGO.out⟩ rfl (fun u hu => by rw [List.mem_singleton.1 hu]; rfl) HR2.out HB2.out HB2.out.size (by have := hxl.out; omega) ?_))
          intro v1 w3 h1 hb3 hg3 hat3
          obtain ⟨g4, c4, rfl⟩ : ∃ g c, v1 = .slice (some ⟨g, 0, none⟩) (xs ++ [x]).length c := by
            obtain ⟨inner, ho1, _⟩ := h1
            rcases ho1.2 with ⟨_, h⟩ | ⟨g', c', _, h, _⟩
            · simp at h
            · exact ⟨g', c', h⟩
          have HR3 := Lib.hid h1
          have HB3 := Lib.hid hb3
          clear h1 hb3 hg3 hat3
          go_wp2
          go_roundw
          case rel => exact ⟨k + 1, g4, c4, xs ++ [x], by go_num, rfl, by omega, HX2, Lib.hid (by have := hxl.out; simp; omega), HR3, HB3⟩
          case measure => simp [intOf]; omega
    · have hkn : k = N := by omega
      subst hkn
      have HFIN := Lib.hid (show RowOf (GoN n (fun _ => True) wr) (fun _ => True) wr (l.filter fullB) (.slice (some ⟨g3, 0, none⟩) xs.length c3) by
        have h1 : l.filter fullB = xs := by rw [hxs.out, HN.out, List.take_length]
        rw [h1]
        exact rowOf_own hR.out hB.out)
      clear hR
      go_wp2
      go_ret2
      exact ⟨_, rfl, HFIN.out, hB.out⟩
end Go.Proofs.Ytlefdkemgfjieaa.P
