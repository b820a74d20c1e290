/- impl.joined; impl.Append, impl.Prepend. -/
import Derived.Test.YtlefdkemgfjieaaP1
import Derived.Test.YtlefdkemgfjieaaT2
set_option linter.unusedVariables false
set_option linter.unusedSimpArgs false
namespace Go.Proofs.Ytlefdkemgfjieaa.P
open Go.RowKit Go.Proofs.YtlefdkemgfjieaaW.PrintWords Go.Proofs.YtlefdkemgfjieaaW.PrintLast Go.Proofs.YtlefdkemgfjieaaW.PrintMore
attribute [local go_sem] run_store_float

theorem app_fits {P : S26 → Prop} {l : List S26} {x : S26} (hf : ∀ i, i < l.length → P (l.getD i z26)) (hx : P x) : ∀ i, i < (l ++ [x]).length → P ((l ++ [x]).getD i z26) := by
  intro i hi
  rw [List.getD_eq_getElem?_getD]
  by_cases h : i < l.length
  · rw [List.getElem?_append_left h, ← List.getD_eq_getElem?_getD]
    exact hf i h
  · have h2 : i = l.length := by simp at hi; omega
    subst h2
    simpa using hx
theorem cons_fits {P : S26 → Prop} {l : List S26} {x : S26} (hf : ∀ i, i < l.length → P (l.getD i z26)) (hx : P x) : ∀ i, i < (x :: l).length → P ((x :: l).getD i z26) := by
  intro i hi
  cases i with
  | zero => exact hx
  | succ i => exact hf i (by simpa using hi)
theorem Push_fn {n : Nat} (l : List S26) (u : Value) (ok : Nat → Prop) (x : S26) (xv : Value) (w : World) (hl : l.length ≤ 300) (hr : RowOf (GoN n ok w) ok w l u) (hx : GoN n ok w x xv) :
    Calls Try.prog 60 #[.iface 77 u, xv] w fun e w' => ∃ u', e = .returned (.tuple #[u', .nilIface]) ∧ RowOf (GoN n (fun _ => True) w') (fun _ => True) w' (l ++ [x]) u' ∧ Below w.heap.size w w' := by
  have HM := Lib.hid (mustPush_call l u ok x xv w hl hr hx)
  have HSH := Lib.hid hx.shape
  clear hr hx
  go_enter Try.func60, Try.ntmps60
  go_wp2_with fail
  refine HM.out.mono ?_
  rintro e w1 ⟨u', rfl, hr1, hb1⟩
  have HR1 := Lib.hid hr1
  have HB1 := Lib.hid hb1
  clear hr1 hb1 HM
  go_wp2
  go_ret2
  exact ⟨_, rfl, HR1.out, HB1.out⟩
theorem Prepend_fn {n : Nat} (l : List S26) (u : Value) (ok : Nat → Prop) (x : S26) (xv : Value) (w : World) (hl : l.length ≤ 300) (hr : RowOf (GoN n ok w) ok w l u) (hx : GoN n ok w x xv) :
    Calls Try.prog 61 #[.iface 77 u, xv] w fun e w' => ∃ u', e = .returned (.tuple #[u', .nilIface]) ∧ RowOf (GoN n (fun _ => True) w') (fun _ => True) w' (x :: l) u' ∧ Below w.heap.size w w' := by
  have HM := Lib.hid (mustPrepend_call l u ok x xv w hl hr hx)
  have HSH := Lib.hid hx.shape
  clear hr hx
  go_enter Try.func61, Try.ntmps61
  go_wp2_with fail
  refine HM.out.mono ?_
  rintro e w1 ⟨u', rfl, hr1, hb1⟩
  have HR1 := Lib.hid hr1
  have HB1 := Lib.hid hb1
  clear hr1 hb1 HM
  go_wp2
  go_ret2
  exact ⟨_, rfl, HR1.out, HB1.out⟩
set_option maxHeartbeats 3200000 in
set_option maxRecDepth 100000 in
theorem joinedPush_call {n : Nat} (l : List S26) (A : Option Addr) (c : Nat) (x : S26) (A4 : Option Addr) (c4 : Nat) (A5 : Option Addr) (c5 : Nat) (w : World) (hf : ∀ i, i < l.length → fitsN n (l.getD i z26)) (hl : l.length ≤ 200) (hA : k26.C w A l.length l) (hx : fitsN n x) (hr : RowsAt x A4 c4 A5 c5 w) :
    Calls Try.prog 59 #[.func (.func 60) #[] #[], .slice A l.length c, aggOf x A4 c4 A5 c5] w fun e w' => ∃ v, e = .returned (.tuple #[v, .bool true]) ∧ Kd.R k26 26 w' w.heap.size (fun _ => True) v ((l ++ [x]).map (normN n)) ∧ Below w.heap.size w w' := by
  obtain ⟨W1, hW1⟩ : ∃ W1, W1 = w.alloc (.cells #[.int .i64 x.f0, .int .i64 x.f1, .float .f64 x.f2, .string x.f3, .slice A4 x.f4.length c4, .slice A5 x.f5.length c5] 26) := ⟨_, rfl⟩
  have hB0 : Below w.heap.size w W1 := by rw [hW1]; exact (Below.refl _ _).alloc (Nat.le_refl _) _
  have HX0 := Lib.hid (show W1.heap[w.heap.size]? = some (.cells #[.int .i64 x.f0, .int .i64 x.f1, .float .f64 x.f2, .string x.f3, .slice A4 x.f4.length c4, .slice A5 x.f5.length c5] 26 (0, 0)) by rw [hW1]; exact blk_new w _)
  have HZ0 := Lib.hid (show w.heap.size < W1.heap.size by rw [hW1]; simp)
  have HB0 := Lib.hid hB0
  have HW1 := Lib.hid hW1
  have HG := Lib.hid (goList_all n l A c W1 hf (by omega) (Kd.C_below hA hB0))
  have HF := Lib.hid hf
  have HX := Lib.hid hx
  have HR := Lib.hid hr
  clear hf hA hx hr hW1 hB0
  unfold aggOf
  go_enter Try.func59, Try.ntmps59
  go_wp2_with fail
  rw [← HW1.out]
  clear HW1
  refine HG.out.mono ?_
  rintro e w1 ⟨u, rfl, hr1, hb1⟩
  have HB1 := Lib.hid (HB0.out.trans (hb1.mono HB0.out.size))
  have hx1 := blk_below HX0.out hb1
  obtain ⟨p0, p1, p2, p3, p4, p5⟩ := cells6 hx1
  have HRU := Lib.hid hr1
  have HGO := Lib.hid (go_all n x A4 c4 A5 c5 w1 HX.out (HR.out.below HB1.out).1 HR.out.2.1 (HR.out.below HB1.out).2.2.1 HR.out.2.2.2)
  clear hr1 hb1 HG hx1
  go_wp2_with fail
  refine HGO.out.mono ?_
  rintro e w2 ⟨xv, rfl, hxv, hb2⟩
  have HB2 := Lib.hid (HB1.out.trans (hb2.mono HB1.out.size))
  have HFN := Lib.hid (Push_fn l u (fun _ => True) x xv w2 (by omega) ((HRU.out.below hb2).ok (fun _ _ _ => trivial)) (hxv.ok (fun _ _ _ => trivial)))
  clear hxv hb2 HGO HRU p0 p1 p2 p3 p4 p5
  go_wp2_with fail
  refine HFN.out.mono ?_
  rintro e w3 ⟨u', rfl, hr3, hb3⟩
  have HB3 := Lib.hid (HB2.out.trans (hb3.mono HB2.out.size))
  have HV := Lib.hid (fun (W : World) (hb : Below w3.heap.size w3 W) => vals_all n (l ++ [x]) u' _ W (app_fits HF.out HX.out) (by simp; omega) (hr3.below hb))
  clear hr3 hb3 HFN
  go_wp2_with fail
  refine start_ (n := 6) (ds := []) (S := fun _ => True) #[false, false, false, false, false, false] (by kernel_rfl) rfl rfl trivial (fun hHeld => ?_)
  refine pure_ (i := 0) (N := some 38) (v := ?_) (a' := ?_) #[true, false, false, false, false, false] rfl rfl (by kernel_rfl) (fun _ _ _ h => h) (Or.inl ⟨by rfl, ?_⟩) ?_ ?_
  rotate_left; (intro w'; go_simp; with_reducible rfl)
  rotate_left; (go_frame; rfl)
  refine pure_ (i := 2) (N := some 40) (v := ?_) (a' := ?_) #[true, false, true, false, false, false] rfl rfl (by kernel_rfl) (fun _ _ _ h => h) (Or.inl ⟨by rfl, ?_⟩) ?_ ?_
  rotate_left; (intro w'; go_simp; with_reducible rfl)
  rotate_left; (go_frame; rfl)
  refine pure_ (i := 3) (N := some 41) (v := ?_) (a' := ?_) #[true, false, true, true, false, false] rfl rfl (by kernel_rfl) (fun _ _ _ h => h) (Or.inl ⟨by rfl, ?_⟩) ?_ ?_
  rotate_left; (intro w'; go_simp; with_reducible rfl)
  rotate_left; (go_frame; rfl)
  refine one_ (i := 1) (N := some 39) #[true, true, true, true, false, false] rfl rfl (by kernel_rfl) (by decide) (fun K hK => ?_)
  refine goes_ Try.func53 (by kernel_rfl) rfl #[u'] (by rfl) rfl rfl (by (try simp only [List.map_toArray, List.map_cons, List.map_nil]); first | done | rfl) ?_
  refine (HV.out _ (Below.refl w3.heap.size w3).drew).mono ?_
  rintro e w4 ⟨v, rfl, hr4, hb4⟩
  refine ⟨_, rfl, ?_⟩
  have HR4 := Lib.hid (Kd.R_lower hr4 (show w.heap.size ≤ w3.drew.heap.size from HB3.out.size))
  have HB4 := Lib.hid (HB3.out.drew.trans (hb4.mono (show w.heap.size ≤ w3.drew.heap.size from HB3.out.size)))
  clear hr4 hb4 HV
  refine hK.out _ _ trivial (fun hHeld => ?_)
  clear hK K
  refine norm_ (a' := ?_) ?_ ?_
  rotate_left
  · show Act.put _ (some 39) _ = _
    go_frame
    rfl
  refine pure_ (i := 4) (N := some 6) (v := ?_) (a' := ?_) #[true, true, true, true, true, false] rfl rfl (by kernel_rfl) (fun _ _ _ h => h) (Or.inl ⟨by rfl, ?_⟩) ?_ ?_
  rotate_left; (intro w'; go_simp; with_reducible rfl)
  rotate_left; (go_frame; rfl)
  refine pure_ (i := 5) (N := some 7) (v := ?_) (a' := ?_) #[true, true, true, true, true, true] rfl rfl (by kernel_rfl) (fun _ _ _ h => h) (Or.inl ⟨by rfl, ?_⟩) ?_ ?_
  rotate_left; (intro w'; go_simp; with_reducible rfl)
  rotate_left; (go_frame; rfl)
  refine done_ (by kernel_rfl) ?_
  go_wp2
  go_ret2
  exact ⟨_, rfl, HR4.out, HB4.out⟩
set_option maxHeartbeats 3200000 in
set_option maxRecDepth 100000 in
theorem implAppend_call {n : Nat} (l : List S26) (A : Option Addr) (c : Nat) (x : S26) (A4 : Option Addr) (c4 : Nat) (A5 : Option Addr) (c5 : Nat) (w : World) (hf : ∀ i, i < l.length → fitsN n (l.getD i z26)) (hl : l.length ≤ 200) (hA : k26.C w A l.length l) (hx : fitsN n x) (hr : RowsAt x A4 c4 A5 c5 w) :
    Calls Try.prog 30 #[.slice A l.length c, aggOf x A4 c4 A5 c5] w fun e w' => ∃ v, e = .returned (.tuple #[v, .bool true]) ∧ Kd.R k26 26 w' w.heap.size (fun _ => True) v ((l ++ [x]).map (normN n)) ∧ Below w.heap.size w w' := by
  obtain ⟨W1, hW1⟩ : ∃ W1, W1 = w.alloc (.cells #[.int .i64 x.f0, .int .i64 x.f1, .float .f64 x.f2, .string x.f3, .slice A4 x.f4.length c4, .slice A5 x.f5.length c5] 26) := ⟨_, rfl⟩
  have hB0 : Below w.heap.size w W1 := by rw [hW1]; exact (Below.refl _ _).alloc (Nat.le_refl _) _
  have HB0 := Lib.hid hB0
  have HW1 := Lib.hid hW1
  have HJ := Lib.hid (joinedPush_call l A c x A4 c4 A5 c5 W1 hf hl (Kd.C_below hA hB0) hx (hr.below hB0))
  clear hf hA hx hr hW1 hB0
  unfold aggOf at HJ ⊢
  go_enter Try.func30, Try.ntmps30
  go_wp2_with fail
  rw [← HW1.out]
  clear HW1
  refine HJ.out.mono ?_
  rintro e w1 ⟨v, rfl, hr1, hb1⟩
  have HR1 := Lib.hid (Kd.R_lower hr1 HB0.out.size)
  have HB1 := Lib.hid (HB0.out.trans (hb1.mono HB0.out.size))
  clear hr1 hb1 HJ
  go_wp2
  go_ret2
  exact ⟨_, rfl, HR1.out, HB1.out⟩
set_option maxHeartbeats 3200000 in
set_option maxRecDepth 100000 in
theorem joinedPrepend_call {n : Nat} (l : List S26) (A : Option Addr) (c : Nat) (x : S26) (A4 : Option Addr) (c4 : Nat) (A5 : Option Addr) (c5 : Nat) (w : World) (hf : ∀ i, i < l.length → fitsN n (l.getD i z26)) (hl : l.length ≤ 200) (hA : k26.C w A l.length l) (hx : fitsN n x) (hr : RowsAt x A4 c4 A5 c5 w) :
    Calls Try.prog 59 #[.func (.func 61) #[] #[], .slice A l.length c, aggOf x A4 c4 A5 c5] w fun e w' => ∃ v, e = .returned (.tuple #[v, .bool true]) ∧ Kd.R k26 26 w' w.heap.size (fun _ => True) v ((x :: l).map (normN n)) ∧ Below w.heap.size w w' := by
  obtain ⟨W1, hW1⟩ : ∃ W1, W1 = w.alloc (.cells #[.int .i64 x.f0, .int .i64 x.f1, .float .f64 x.f2, .string x.f3, .slice A4 x.f4.length c4, .slice A5 x.f5.length c5] 26) := ⟨_, rfl⟩
  have hB0 : Below w.heap.size w W1 := by rw [hW1]; exact (Below.refl _ _).alloc (Nat.le_refl _) _
  have HX0 := Lib.hid (show W1.heap[w.heap.size]? = some (.cells #[.int .i64 x.f0, .int .i64 x.f1, .float .f64 x.f2, .string x.f3, .slice A4 x.f4.length c4, .slice A5 x.f5.length c5] 26 (0, 0)) by rw [hW1]; exact blk_new w _)
  have HZ0 := Lib.hid (show w.heap.size < W1.heap.size by rw [hW1]; simp)
  have HB0 := Lib.hid hB0
  have HW1 := Lib.hid hW1
  have HG := Lib.hid (goList_all n l A c W1 hf (by omega) (Kd.C_below hA hB0))
  have HF := Lib.hid hf
  have HX := Lib.hid hx
  have HR := Lib.hid hr
  clear hf hA hx hr hW1 hB0
  unfold aggOf
  go_enter Try.func59, Try.ntmps59
  go_wp2_with fail
  rw [← HW1.out]
  clear HW1
  refine HG.out.mono ?_
  rintro e w1 ⟨u, rfl, hr1, hb1⟩
  have HB1 := Lib.hid (HB0.out.trans (hb1.mono HB0.out.size))
  have hx1 := blk_below HX0.out hb1
  obtain ⟨p0, p1, p2, p3, p4, p5⟩ := cells6 hx1
  have HRU := Lib.hid hr1
  have HGO := Lib.hid (go_all n x A4 c4 A5 c5 w1 HX.out (HR.out.below HB1.out).1 HR.out.2.1 (HR.out.below HB1.out).2.2.1 HR.out.2.2.2)
  clear hr1 hb1 HG hx1
  go_wp2_with fail
  refine HGO.out.mono ?_
  rintro e w2 ⟨xv, rfl, hxv, hb2⟩
  have HB2 := Lib.hid (HB1.out.trans (hb2.mono HB1.out.size))
  have HFN := Lib.hid (Prepend_fn l u (fun _ => True) x xv w2 (by omega) ((HRU.out.below hb2).ok (fun _ _ _ => trivial)) (hxv.ok (fun _ _ _ => trivial)))
  clear hxv hb2 HGO HRU p0 p1 p2 p3 p4 p5
  go_wp2_with fail
  refine HFN.out.mono ?_
  rintro e w3 ⟨u', rfl, hr3, hb3⟩
  have HB3 := Lib.hid (HB2.out.trans (hb3.mono HB2.out.size))
  have HV := Lib.hid (fun (W : World) (hb : Below w3.heap.size w3 W) => vals_all n (x :: l) u' _ W (cons_fits HF.out HX.out) (by simp; omega) (hr3.below hb))
  clear hr3 hb3 HFN
  go_wp2_with fail
  refine start_ (n := 6) (ds := []) (S := fun _ => True) #[false, false, false, false, false, false] (by kernel_rfl) rfl rfl trivial (fun hHeld => ?_)
  refine pure_ (i := 0) (N := some 38) (v := ?_) (a' := ?_) #[true, false, false, false, false, false] rfl rfl (by kernel_rfl) (fun _ _ _ h => h) (Or.inl ⟨by rfl, ?_⟩) ?_ ?_
  rotate_left; (intro w'; go_simp; with_reducible rfl)
  rotate_left; (go_frame; rfl)
  refine pure_ (i := 2) (N := some 40) (v := ?_) (a' := ?_) #[true, false, true, false, false, false] rfl rfl (by kernel_rfl) (fun _ _ _ h => h) (Or.inl ⟨by rfl, ?_⟩) ?_ ?_
  rotate_left; (intro w'; go_simp; with_reducible rfl)
  rotate_left; (go_frame; rfl)
  refine pure_ (i := 3) (N := some 41) (v := ?_) (a' := ?_) #[true, false, true, true, false, false] rfl rfl (by kernel_rfl) (fun _ _ _ h => h) (Or.inl ⟨by rfl, ?_⟩) ?_ ?_
  rotate_left; (intro w'; go_simp; with_reducible rfl)
  rotate_left; (go_frame; rfl)
  refine one_ (i := 1) (N := some 39) #[true, true, true, true, false, false] rfl rfl (by kernel_rfl) (by decide) (fun K hK => ?_)
  refine goes_ Try.func53 (by kernel_rfl) rfl #[u'] (by rfl) rfl rfl (by (try simp only [List.map_toArray, List.map_cons, List.map_nil]); first | done | rfl) ?_
  refine (HV.out _ (Below.refl w3.heap.size w3).drew).mono ?_
  rintro e w4 ⟨v, rfl, hr4, hb4⟩
  refine ⟨_, rfl, ?_⟩
  have HR4 := Lib.hid (Kd.R_lower hr4 (show w.heap.size ≤ w3.drew.heap.size from HB3.out.size))
  have HB4 := Lib.hid (HB3.out.drew.trans (hb4.mono (show w.heap.size ≤ w3.drew.heap.size from HB3.out.size)))
  clear hr4 hb4 HV
  refine hK.out _ _ trivial (fun hHeld => ?_)
  clear hK K
  refine norm_ (a' := ?_) ?_ ?_
  rotate_left
  · show Act.put _ (some 39) _ = _
    go_frame
    rfl
  refine pure_ (i := 4) (N := some 6) (v := ?_) (a' := ?_) #[true, true, true, true, true, false] rfl rfl (by kernel_rfl) (fun _ _ _ h => h) (Or.inl ⟨by rfl, ?_⟩) ?_ ?_
  rotate_left; (intro w'; go_simp; with_reducible rfl)
  rotate_left; (go_frame; rfl)
  refine pure_ (i := 5) (N := some 7) (v := ?_) (a' := ?_) #[true, true, true, true, true, true] rfl rfl (by kernel_rfl) (fun _ _ _ h => h) (Or.inl ⟨by rfl, ?_⟩) ?_ ?_
  rotate_left; (intro w'; go_simp; with_reducible rfl)
  rotate_left; (go_frame; rfl)
  refine done_ (by kernel_rfl) ?_
  go_wp2
  go_ret2
  exact ⟨_, rfl, HR4.out, HB4.out⟩
set_option maxHeartbeats 3200000 in
set_option maxRecDepth 100000 in
theorem implPrepend_call {n : Nat} (l : List S26) (A : Option Addr) (c : Nat) (x : S26) (A4 : Option Addr) (c4 : Nat) (A5 : Option Addr) (c5 : Nat) (w : World) (hf : ∀ i, i < l.length → fitsN n (l.getD i z26)) (hl : l.length ≤ 200) (hA : k26.C w A l.length l) (hx : fitsN n x) (hr : RowsAt x A4 c4 A5 c5 w) :
    Calls Try.prog 31 #[.slice A l.length c, aggOf x A4 c4 A5 c5] w fun e w' => ∃ v, e = .returned (.tuple #[v, .bool true]) ∧ Kd.R k26 26 w' w.heap.size (fun _ => True) v ((x :: l).map (normN n)) ∧ Below w.heap.size w w' := by
  obtain ⟨W1, hW1⟩ : ∃ W1, W1 = w.alloc (.cells #[.int .i64 x.f0, .int .i64 x.f1, .float .f64 x.f2, .string x.f3, .slice A4 x.f4.length c4, .slice A5 x.f5.length c5] 26) := ⟨_, rfl⟩
  have hB0 : Below w.heap.size w W1 := by rw [hW1]; exact (Below.refl _ _).alloc (Nat.le_refl _) _
  have HB0 := Lib.hid hB0
  have HW1 := Lib.hid hW1
  have HJ := Lib.hid (joinedPrepend_call l A c x A4 c4 A5 c5 W1 hf hl (Kd.C_below hA hB0) hx (hr.below hB0))
  clear hf hA hx hr hW1 hB0
  unfold aggOf at HJ ⊢
  go_enter Try.func31, Try.ntmps31
  go_wp2_with fail
  rw [← HW1.out]
  clear HW1
  refine HJ.out.mono ?_
  rintro e w1 ⟨v, rfl, hr1, hb1⟩
  have HR1 := Lib.hid (Kd.R_lower hr1 HB0.out.size)
  have HB1 := Lib.hid (HB0.out.trans (hb1.mono HB0.out.size))
  clear hr1 hb1 HJ
  go_wp2
  go_ret2
  exact ⟨_, rfl, HR1.out, HB1.out⟩
end Go.Proofs.Ytlefdkemgfjieaa.P
