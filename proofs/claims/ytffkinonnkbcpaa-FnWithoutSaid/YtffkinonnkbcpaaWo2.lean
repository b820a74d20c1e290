/- impl.Without, spec.Has, spec.Without. -/
import Derived.Test.YtffkinonnkbcpaaWo1
import Derived.Test.YtffkinonnkbcpaaR4
import Derived.Test.YtffkinonnkbcpaaEq6
set_option linter.unusedVariables false
set_option linter.unusedSimpArgs false
namespace Go.Proofs.Ytffkinonnkbcpaa.P
open Go.RowKit Go.Proofs.YtffkinonnkbcpaaW.PrintWords Go.Proofs.YtffkinonnkbcpaaW.PrintLast Go.Proofs.YtffkinonnkbcpaaW.PrintMore
attribute [local go_sem] run_store_float

theorem filter_all {P : S31 → Prop} {l : List S31} (p : S31 → Bool) (hf : ∀ i, i < l.length → P (l.getD i z31)) : ∀ i, i < (l.filter p).length → P ((l.filter p).getD i z31) := by
  intro i hi
  rw [List.getD_eq_getElem?_getD, List.getElem?_eq_getElem hi]
  have hm := (List.mem_filter.1 (List.getElem_mem hi)).1
  obtain ⟨j, hj, he⟩ := List.getElem_of_mem hm
  have h := hf j hj
  rw [List.getD_eq_getElem?_getD, List.getElem?_eq_getElem hj] at h
  simp only [Option.getD_some] at h ⊢
  rw [← he]
  exact h
set_option maxHeartbeats 3200000 in
set_option maxRecDepth 100000 in
theorem implWithout_call (f : S31 → Bool) (om : List S31) (hff : ∀ x, f x = true ↔ ¬ hasP 8 om x) (l : List S31) (A : Option Addr) (c : Nat) (B : Option Addr) (d : Nat) (w : World) (hr : (∀ i, i < l.length → rightN 8 (l.getD i z31) ∧ finN 8 (l.getD i z31))) (hf : ∀ i, i < l.length → fitsN 8 (l.getD i z31)) (hl : l.length ≤ 300) (hro : ∀ i, i < om.length → rightN 8 (om.getD i z31)) (hfo : ∀ i, i < om.length → fitsN 8 (om.getD i z31)) (hol : om.length ≤ 300) (hA : k31.C w A l.length l) (hB : k31.C w B om.length om) :
    Calls Try.prog 7 #[.slice A l.length c, .slice B om.length d] w fun e w' => ∃ v, e = .returned (.tuple #[v, .bool true]) ∧ Kd.R k31 31 w' w.heap.size (fun _ => True) v ((l.filter f).map (normN 8)) ∧ Below w.heap.size w w' := by
  have HG := Lib.hid (goList_all 8 l A c w hf hl hA)
  have HH := Lib.hid (fun (W : World) (hb : Below w.heap.size w W) => goList_all 8 om B d W hfo hol (Kd.C_below hB hb))
  have HF := Lib.hid hf
  have HFF := Lib.hid hff
  have HRR := Lib.hid hr
  have HRO := Lib.hid hro
  clear hf hA hB hff hr hro hfo
  go_enter Try.func7, Try.ntmps7
  go_wp2_with fail
  refine HG.out.mono ?_
  rintro e w1 ⟨u, rfl, hr1, hb1⟩
  have HB1 := Lib.hid hb1
  have HR1 := Lib.hid hr1
  have HHC := Lib.hid (HH.out w1 hb1)
  clear hr1 hb1 HG HH
  go_wp2_with fail
  refine HHC.out.mono ?_
  rintro e w2 ⟨q, rfl, hr2, hb2⟩
  have HB2 := Lib.hid (HB1.out.trans (hb2.mono HB1.out.size))
  have HWC := Lib.hid (sprigWithout_call f om HFF.out l u q _ _ w2 HRR.out HRO.out (by omega) hr2 hl (HR1.out.below hb2))
  clear hr2 hb2 HHC HR1
  go_wp2_with fail
  refine HWC.out.mono ?_
  rintro e w3 ⟨u', rfl, hr3, hb3⟩
  have HB3 := Lib.hid (HB2.out.trans (hb3.mono HB2.out.size))
  have HV := Lib.hid (fun (W : World) (hb : Below w3.heap.size w3 W) => vals_all 8 (l.filter f) u' _ W (filter_all f HF.out) (Nat.le_trans (List.length_filter_le _ _) hl) (hr3.below hb))
  clear hr3 hb3 HWC
  go_upto_region 6 with fail
  refine start_ (n := 6) (ds := []) (S := fun _ => True) #[false, false, false, false, false, false] (by kernel_rfl) rfl rfl (trivial) (fun hHeld => ?_)
  refine pure_ (i := 0) (N := some 35) (v := ?_) (a' := ?_) #[true, false, false, false, false, false] rfl rfl (by kernel_rfl) (fun _ _ _ h => h) (Or.inl ⟨by rfl, ?_⟩) ?_ ?_
  rotate_left; (intro w'; go_simp; with_reducible rfl)
  rotate_left; (go_frame; rfl)
  refine pure_ (i := 2) (N := some 37) (v := ?_) (a' := ?_) #[true, false, true, false, false, false] rfl rfl (by kernel_rfl) (fun _ _ _ h => h) (Or.inl ⟨by rfl, ?_⟩) ?_ ?_
  rotate_left; (intro w'; go_simp; with_reducible rfl)
  rotate_left; (go_frame; rfl)
  refine pure_ (i := 3) (N := some 38) (v := ?_) (a' := ?_) #[true, false, true, true, false, false] rfl rfl (by kernel_rfl) (fun _ _ _ h => h) (Or.inl ⟨by rfl, ?_⟩) ?_ ?_
  rotate_left; (intro w'; go_simp; with_reducible rfl)
  rotate_left; (go_frame; rfl)
  refine one_ (i := 1) (N := some 36) #[true, true, true, true, false, false] rfl rfl (by kernel_rfl) (by decide) (fun K hK => ?_)
  refine goes_ Try.func20 (by kernel_rfl) rfl #[u'] (by rfl) rfl rfl (by (try simp only [List.map_toArray, List.map_cons, List.map_nil]); first | done | rfl) ?_
  refine (HV.out _ (Below.refl w3.heap.size w3).drew).mono ?_
  rintro e w4 ⟨v, rfl, hr4, hb4⟩
  refine ⟨_, rfl, ?_⟩
  have HR4 := Lib.hid (Kd.R_lower hr4 (show w.heap.size ≤ w3.drew.heap.size from HB3.out.size))
  have HB4 := Lib.hid (HB3.out.drew.trans (hb4.mono (show w.heap.size ≤ w3.drew.heap.size from HB3.out.size)))
  clear hr4 hb4 HV
  refine hK.out _ _ trivial (fun hHeld => ?_)
  clear hK K
  refine norm_ (a' := ?_) ?_ ?_
  rotate_left
  · show Act.put _ (some 36) _ = _
    go_frame
    rfl
  refine pure_ (i := 4) (N := some 4) (v := ?_) (a' := ?_) #[true, true, true, true, true, false] rfl rfl (by kernel_rfl) (fun _ _ _ h => h) (Or.inl ⟨by rfl, ?_⟩) ?_ ?_
  rotate_left; (intro w'; go_simp; with_reducible rfl)
  rotate_left; (go_frame; rfl)
  refine pure_ (i := 5) (N := some 5) (v := ?_) (a' := ?_) #[true, true, true, true, true, true] rfl rfl (by kernel_rfl) (fun _ _ _ h => h) (Or.inl ⟨by rfl, ?_⟩) ?_ ?_
  rotate_left; (intro w'; go_simp; with_reducible rfl)
  rotate_left; (go_frame; rfl)
  refine done_ (by kernel_rfl) ?_
  go_wp2
  go_ret2
  exact ⟨_, rfl, HR4.out, HB4.out⟩
set_option maxHeartbeats 3200000 in
set_option maxRecDepth 100000 in
theorem specHas_call (om : List S31) (A : Option Addr) (c : Nat) (x : S31) (A4 : Option Addr) (c4 : Nat) (A5 : Option Addr) (c5 : Nat) (w : World) (hf : ∀ i, i < om.length → fitsN 8 (om.getD i z31)) (hl : om.length ≤ 1000) (hA : k31.C w A om.length om) (hc : om.length ≤ c) (hx : RowsAt x A4 c4 A5 c5 w) :
    Calls Try.prog 22 #[.slice A om.length c, (.agg #[.int .i64 x.f0, .int .i64 x.f1, .float .f64 x.f2, .string x.f3, .slice A4 x.f4.length c4, .slice A5 x.f5.length c5])] w (BoolPost (hasP 8 om x) w) := by
  have HF := Lib.hid hf
  have HA := Lib.hid hA
  have HX := Lib.hid hx
  have HB0 := Lib.hid ((Below.refl w.heap.size w).alloc (Nat.le_refl _) (.cells #[.int .i64 x.f0, .int .i64 x.f1, .float .f64 x.f2, .string x.f3, .slice A4 x.f4.length c4, .slice A5 x.f5.length c5] 31))
  have HX0 := Lib.hid (heap_alloc_new w (.cells #[.int .i64 x.f0, .int .i64 x.f1, .float .f64 x.f2, .string x.f3, .slice A4 x.f4.length c4, .slice A5 x.f5.length c5] 31))
  clear hf hA hx
  go_enter Try.func22, Try.ntmps22
  go_upto_region 1 with fail
  generalize w.alloc (.cells #[.int .i64 x.f0, .int .i64 x.f1, .float .f64 x.f2, .string x.f3, .slice A4 x.f4.length c4, .slice A5 x.f5.length c5] 31) = w1 at *
  go_wp2
  go_loopw [5] (fun i wr => ∃ k : Nat, i = .int .i64 k ∧ k ≤ om.length ∧ Hid (∀ j, j < k → ¬ SameP 8 (om.getD j z31) x) ∧ Hid (Below w.heap.size w wr) ∧ Hid (wr.heap[w.heap.size]? = some (.cells #[.int .i64 x.f0, .int .i64 x.f1, .float .f64 x.f2, .string x.f3, .slice A4 x.f4.length c4, .slice A5 x.f5.length c5] 31 (0, 0)))) (fun i _ => om.length - (intOf i).toNat)
  case atStart => exact ⟨0, rfl, Nat.zero_le _, Lib.hid (fun j hj => absurd hj (Nat.not_lt_zero _)), HB0, HX0⟩
  case round =>
    clear HB0 HX0
    obtain ⟨k, rfl, hk, hP, hB, hX⟩ := hrel
    by_cases ck : k < om.length
    · obtain ⟨a, B4, d4, B5, d5, rfl, p0, p1, p2, p3, p4, p5, pl4, pg4, pl5, pg5⟩ := at_T31 (Kd.C_below HA.out hB.out) (k : Int) (by omega) (by omega)
      simp only [Int.toNat_natCast] at p0 p1 p2 p3 p4 p5
      have ci0 : (0 : Int) ≤ (k : Int) := by omega
      have ci1 : (k : Int) < (om.length : Int) := by omega
      have hfk := HF.out k ck
      have hgd : rd_T31 om (k : Int) = om.getD k z31 := rd_get om k
      have HPK := Lib.hid (show (SameP 8 (rd_T31 om (k : Int)) x → hasP 8 om x) ∧ (¬ SameP 8 (rd_T31 om (k : Int)) x → ∀ j, j < k + 1 → ¬ SameP 8 (om.getD j z31) x) from ⟨fun h => ⟨k, ck, by rw [← hgd]; exact h⟩, fun h j hj => by
        by_cases hjk : j < k
        · exact hP.out j hjk
        · have : j = k := by omega
          subst this
          rw [← hgd]
          exact h⟩)
      rw [← hgd] at hfk
      clear hgd hP
      generalize rd_T31 om (k : Int) = y at *
      have hbd := (Below.refl wr.heap.size wr).drew
      have HC := Lib.hid (same_all 8 y x B4 d4 B5 d5 A4 c4 A5 c5 wr.drew hfk (fits_keys hfk) (Kd.C_below pg4 hbd) pl4 (Kd.C_below pg5 hbd) pl5 (Kd.C_below (Kd.C_below HX.out.1 hB.out) hbd) HX.out.2.1 (Kd.C_below (Kd.C_below HX.out.2.2.1 hB.out) hbd) HX.out.2.2.2)
      have HBd := Lib.hid (show Below w.heap.size w wr.drew from hB.out.drew)
      clear hfk pg4 pg5 pl4 pl5 hbd hB
      by_cases htrue : True
      · go_upto_region 4 with fail
        refine start_ (n := 6) (ds := [5]) (S := fun w' => (w'.cell? (a.add (k * 6)) = some (.int .i64 y.f0) ∧ w'.cell? ⟨(a.add (k * 6)).block, (a.add (k * 6)).off + 1, none⟩ = some (.int .i64 y.f1) ∧ w'.cell? ⟨(a.add (k * 6)).block, (a.add (k * 6)).off + 2, none⟩ = some (.float .f64 y.f2) ∧ w'.cell? ⟨(a.add (k * 6)).block, (a.add (k * 6)).off + 3, none⟩ = some (.string y.f3) ∧ w'.cell? ⟨(a.add (k * 6)).block, (a.add (k * 6)).off + 4, none⟩ = some (.slice B4 y.f4.length d4) ∧ w'.cell? ⟨(a.add (k * 6)).block, (a.add (k * 6)).off + 5, none⟩ = some (.slice B5 y.f5.length d5)) ∧ w'.heap[w.heap.size]? = some (.cells #[.int .i64 x.f0, .int .i64 x.f1, .float .f64 x.f2, .string x.f3, .slice A4 x.f4.length c4, .slice A5 x.f5.length c5] 31 (0, 0))) #[false, false, false, false, false, false] (by kernel_rfl) rfl rfl (⟨⟨p0, p1, p2, p3, p4, p5⟩, hX.out⟩) (fun hHeld => ?_)
        clear p0 p1 p2 p3 p4 p5
        generalize wr.drew = v0 at *
        refine pure_ (i := 0) (N := some 12) (v := ?_) (a' := ?_) #[true, false, false, false, false, false] rfl rfl (by kernel_rfl) (fun _ _ _ h => h) (Or.inl ⟨by rfl, ?_⟩) ?_ ?_
        rotate_left; (intro w'; go_simp; with_reducible rfl)
        rotate_left; (go_frame; rfl)
        refine pure_ (i := 1) (N := some 13) (v := ?_) (a' := ?_) #[true, true, false, false, false, false] rfl rfl (by kernel_rfl) (fun _ _ _ h => h) (Or.inl ⟨by rfl, ?_⟩) ?_ ?_
        rotate_left; (intro w'; go_simp; with_reducible rfl)
        rotate_left; (go_frame; rfl)
        refine pure_ (i := 2) (N := some 14) (v := ?_) (a' := ?_) #[true, true, true, false, false, false] rfl rfl (by kernel_rfl) (fun _ _ _ h => h) (Or.inl ⟨by rfl, ?_⟩) ?_ ?_
        rotate_left; (intro w'; go_simp; with_reducible rfl)
        rotate_left; (go_frame; rfl)
        refine take_ (i := 3) (N := some 15) (v := ?_) (a' := ?_) #[true, true, true, true, false, false] rfl rfl (by kernel_rfl) (fun _ _ _ h => h) (Or.inl ⟨by rfl, ?_⟩) hHeld ?_ ?_
        rotate_left
        · intro w' hS
          obtain ⟨⟨p0, p1, p2, p3, p4, p5⟩, -⟩ := hS
          go_simp
          with_reducible rfl
        rotate_left; (go_frame; rfl)
        refine take_ (i := 4) (N := some 16) (v := ?_) (a' := ?_) #[true, true, true, true, true, false] rfl rfl (by kernel_rfl) (fun _ _ _ h => h) (Or.inl ⟨by rfl, ?_⟩) hHeld ?_ ?_
        rotate_left
        · intro w' hS
          obtain ⟨-, hS⟩ := hS
          have z0 := blk_cell hS 0
          have z1 := blk_cell hS 1
          have z2 := blk_cell hS 2
          have z3 := blk_cell hS 3
          have z4 := blk_cell hS 4
          have z5 := blk_cell hS 5
          simp only [List.getElem?_toArray, List.getElem?_cons_zero, List.getElem?_cons_succ] at z0 z1 z2 z3 z4 z5
          clear hS
          go_simp
          with_reducible rfl
        rotate_left; (go_frame; rfl)
        have HQ := Lib.hid hHeld.2
        refine last_ (i := 5) (N := some 17) #[true, true, true, true, true, true] rfl rfl (by kernel_rfl) (by decide) (fun K hK => ?_)
        refine goes_ Try.func21 (by kernel_rfl) rfl #[(.agg #[.int .i64 y.f0, .int .i64 y.f1, .float .f64 y.f2, .string y.f3, .slice B4 y.f4.length d4, .slice B5 y.f5.length d5]), (.agg #[.int .i64 x.f0, .int .i64 x.f1, .float .f64 x.f2, .string x.f3, .slice A4 x.f4.length c4, .slice A5 x.f5.length c5])] (by rfl) rfl rfl (by (try simp only [List.map_toArray, List.map_cons, List.map_nil]); first | done | rfl) ?_
        refine (HC.out).mono ?_
        rintro e w2 ⟨r, rfl, hr, hb2⟩
        have HRR := Lib.hid hr
        have HB2 := Lib.hid (HBd.out.trans (hb2.mono HBd.out.size))
        have HX2 := Lib.hid (blk_below HQ.out hb2)
        clear hr hb2 HC HQ
        refine ⟨_, rfl, ?_⟩
        clear hHeld
        refine hK.out _ _ ?_
        clear hK K
        refine norm_ (a' := ?_) ?_ ?_
        rotate_left
        · show Act.put _ (some 17) _ = _
          go_frame
          rfl
        refine done_ (by kernel_rfl) ?_
        cases r with
        | true =>
          have HT := Lib.hid (HPK.out.1 (HRR.out.1 rfl))
          go_wp2
          go_ret
          exact ⟨true, rfl, ⟨fun _ => HT.out, fun _ => rfl⟩, HB2.out⟩
        | false =>
          have HP2 := Lib.hid (HPK.out.2 (fun h => by have := HRR.out.2 h; cases this))
          go_wp2
          go_roundw
          case rel => exact ⟨k + 1, by go_num, by omega, HP2, HB2, HX2⟩
          case measure => simp [intOf]; omega
      · exact absurd trivial htrue
    · have HFN := Lib.hid (show ¬ hasP 8 om x from fun ⟨j, hj, h⟩ => hP.out j (by omega) h)
      clear hP
      go_wp2
      go_ret
      exact ⟨false, rfl, ⟨(fun h => by cases h), fun h => absurd h HFN.out⟩, hB.out⟩
set_option maxHeartbeats 3200000 in
set_option maxRecDepth 100000 in
theorem specWithout_call (f : S31 → Bool) (om : List S31) (hff : ∀ x, f x = true ↔ ¬ hasP 8 om x) (l : List S31) (A : Option Addr) (c : Nat) (B : Option Addr) (d : Nat) (w : World) (hl : l.length ≤ 1000) (hA : k31.C w A l.length l) (hc : l.length ≤ c) (hfo : ∀ i, i < om.length → fitsN 8 (om.getD i z31)) (hol : om.length ≤ 1000) (hBo : k31.C w B om.length om) (hd : om.length ≤ d) :
    Calls Try.prog 9 #[.slice A l.length c, .slice B om.length d] w fun e w' => ∃ v, e = .returned v ∧ Row0 w w.heap.size w' v (l.filter f) ∧ Below w.heap.size w w' := by
  have HA := Lib.hid hA
  have HFF := Lib.hid hff
  have HFO := Lib.hid hfo
  have HBO := Lib.hid hBo
  clear hA hff hfo hBo
  go_enter Try.func9, Try.ntmps9
  go_wp2
  go_loopw [5, 6] (fun v i wr => ∃ (k : Nat) (A3 : Option Addr) (c3 : Nat) (xs : List S31), i = .int .i64 k ∧ v = .slice A3 xs.length c3 ∧ k ≤ l.length ∧ Hid (xs = (l.take k).filter f) ∧ Hid (xs.length ≤ k) ∧ Hid (Row0 w w.heap.size wr v xs) ∧ Hid (Below w.heap.size w wr)) (fun _ i _ => l.length - (intOf i).toNat)
  case atStart => exact ⟨0, none, 0, [], rfl, rfl, Nat.zero_le _, Lib.hid (by simp), Lib.hid (Nat.le_refl _), Lib.hid (OwnRow.none_ _ _ _ _ _), Lib.hid (Below.refl _ _)⟩
  case round =>
    obtain ⟨k, A3, c3, xs, rfl, rfl, hk, hxs, hxl, hR, hB⟩ := hrel
    by_cases ck : k < l.length
    · obtain ⟨ad, A4, c4, A5, c5, hAd, e0, e1, e2, e3, e4, e5, l4, g4, l5, g5⟩ := at_T31 HA.out (k : Int) (by omega) (by omega)
      subst hAd
      simp only [Int.toNat_natCast] at e0 e1 e2 e3 e4 e5
      have q0 := (hB.out.cell (cell_ltR e0)).trans e0
      have q1 := (hB.out.cell (cell_ltR e1)).trans e1
      have q2 := (hB.out.cell (cell_ltR e2)).trans e2
      have q3 := (hB.out.cell (cell_ltR e3)).trans e3
      have q4 := (hB.out.cell (cell_ltR e4)).trans e4
      have q5 := (hB.out.cell (cell_ltR e5)).trans e5
      have HKx := Lib.hid (k31_mk w _ l4 g4 l5 g5)
      have HRX := Lib.hid (show RowsAt (rd_T31 l (k : Int)) A4 c4 A5 c5 w from ⟨g4, l4, g5, l5⟩)
      have ci0 : (0 : Int) ≤ (k : Int) := by omega
      have ci1 : (k : Int) < (l.length : Int) := by omega
      have HTF := Lib.hid (take_filter l f k ck)
      have hgd : rd_T31 l (k : Int) = l[k] := by simp [rd_T31, ck]
      have HE0 := Lib.hid e0
      have HE1 := Lib.hid e1
      have HE2 := Lib.hid e2
      have HE3 := Lib.hid e3
      have HE4 := Lib.hid e4
      have HE5 := Lib.hid e5
      rw [hgd] at HE0 HE1 HE2 HE3 HE4 HE5 HRX HKx q0 q1 q2 q3 q4 q5
      clear l4 g4 l5 g5 e0 e1 e2 e3 e4 e5 hgd
      generalize l[k] = x at *
      have HEM := Lib.hid (specHas_call om B d x A4 c4 A5 c5 wr HFO.out hol (Kd.C_below HBO.out hB.out) hd (HRX.out.below hB.out))
      go_wp2_with fail
      refine HEM.out.mono ?_
      rintro e w2 ⟨r, rfl, hr, hb2⟩
      have hfr : f x = !r := by
        have h1 := HFF.out x
        cases r with
        | true => have h2 := hr.1 rfl; cases hfx : f x with
          | false => rfl
          | true => exact absurd h2 (h1.1 hfx)
        | false => cases hfx : f x with
          | true => rfl
          | false => exact absurd (h1.2 (fun h => by have := hr.2 h; cases this)) (by rw [hfx]; decide)
      have HFR := Lib.hid hfr
      clear hfr hr
      have HB2 := Lib.hid (hB.out.trans (hb2.mono hB.out.size))
      have HR2 := Lib.hid (OwnRow.below hR.out hb2)
      clear q0 q1 q2 q3 q4 q5 hb2 HEM hR hB
      cases he : r with
      | true =>
        have HX2 := Lib.hid (show xs = (l.take (k + 1)).filter f by rw [HTF.out, show f x = false by rw [HFR.out, he]; rfl, ← hxs.out]; simp)
        clear HFR HTF hxs
        go_wp2
        go_roundw
        case rel => exact ⟨k + 1, A3, c3, xs, by go_num, rfl, by omega, HX2, Lib.hid (by have := hxl.out; omega), HR2, HB2⟩
        case measure => simp [intOf]; omega
      | false =>
        have HX2 := Lib.hid (show xs ++ [x] = (l.take (k + 1)).filter f by rw [HTF.out, show f x = true by rw [HFR.out, he]; rfl, ← hxs.out]; simp)
        clear HFR HTF hxs
        have q0 := (HB2.out.cell (cell_ltR HE0.out)).trans HE0.out
        have q1 := (HB2.out.cell (cell_ltR HE1.out)).trans HE1.out
        have q2 := (HB2.out.cell (cell_ltR HE2.out)).trans HE2.out
        have q3 := (HB2.out.cell (cell_ltR HE3.out)).trans HE3.out
        have q4 := (HB2.out.cell (cell_ltR HE4.out)).trans HE4.out
        have q5 := (HB2.out.cell (cell_ltR HE5.out)).trans HE5.out
        go_wp2_with (at_builtin; refine OwnRow.append (w0 := w) w.heap.size rfl _ _ 22 31 (.agg #[(.int .i64 0), (.int .i64 0), (.float .f64 0), (.string ⟨#[]⟩), (.slice none 0 0), (.slice none 0 0)]) 6 88 rfl Try.underlying22 info_val rfl (by decide) (by decide) (.slice A3 xs.length c3) xs x [.int .i64 x.f0, .int .i64 x.f1, .float .f64 x.f2, .string x.f3, .slice A4 x.f4.length c4, .slice A5 x.f5.length c5] rfl rfl HKx.out rfl (fun u hu => k31.K_one HKx.out u hu) HR2.out HB2.out HB2.out.size (by have := hxl.out; omega) ?_; intro v1 w3 h1 hb3 hg3 hat3)
        obtain ⟨A6, c6, rfl, _⟩ := OwnRow.slice_ h1
        have HR3 := Lib.hid (show Row0 w w.heap.size w3 (.slice A6 (xs ++ [x]).length c6) (xs ++ [x]) from h1)
        have HB3 := Lib.hid hb3
        clear h1 hb3 hg3 hat3
        go_wp2
        go_roundw
        case rel => exact ⟨k + 1, A6, c6, xs ++ [x], by go_num, rfl, by omega, HX2, Lib.hid (by have := hxl.out; simp; omega), HR3, HB3⟩
        case measure => simp [intOf]; omega
    · have hkn : k = l.length := by omega
      have HR2 := Lib.hid (show Row0 w w.heap.size wr (.slice A3 xs.length c3) (l.filter f) by
        have h1 : l.filter f = xs := by rw [hxs.out, hkn, List.take_length]
        rw [h1]
        exact hR.out)
      subst hkn
      clear hR
      go_wp2
      go_ret
      exact ⟨_, rfl, HR2.out, hB.out⟩
end Go.Proofs.Ytffkinonnkbcpaa.P
