/- impl.listed of sprig.Reverse; impl.Reverse. -/
import Derived.Test.YtlefdkemgfjieaaR2
set_option linter.unusedVariables false
set_option linter.unusedSimpArgs false
namespace Go.Proofs.Ytlefdkemgfjieaa.P
open Go.RowKit Go.Proofs.YtlefdkemgfjieaaW.PrintWords Go.Proofs.YtlefdkemgfjieaaW.PrintLast Go.Proofs.YtlefdkemgfjieaaW.PrintMore
attribute [local go_sem] run_store_float

/-- A function from rows to rows. -/
def RowFn (F : Nat) (n : Nat) (turn : List S26 → List S26) : Prop := ∀ (l : List S26) (u : Value) (ok : Nat → Prop) (w : World), (∀ i, i < l.length → fitsN n (l.getD i z26)) → l.length ≤ 300 → RowOf (GoN n ok w) ok w l u →
    Calls Try.prog F #[.iface 77 u] w fun e w' => ∃ u', e = .returned (.tuple #[u', .nilIface]) ∧ RowOf (GoN n (fun _ => True) w') (fun _ => True) w' (turn l) u' ∧ Below w.heap.size w w'
theorem Reverse_fn (n : Nat) : RowFn 58 n List.reverse := by
  intro l u ok w hf hl hr
  have HM := Lib.hid (mustReverse_call l u ok w hl hr)
  clear hf hr
  go_enter Try.func58, Try.ntmps58
  go_wp2_with fail
  refine HM.out.mono ?_
  rintro e w1 ⟨u', rfl, hr1, hb1⟩
  have HR1 := Lib.hid hr1
  have HB1 := Lib.hid hb1
  clear hr1 hb1 HM
  go_wp2
  go_ret2
  exact ⟨_, rfl, HR1.out, HB1.out⟩
theorem rev_fits {n : Nat} {l : List S26} (hf : ∀ i, i < l.length → fitsN n (l.getD i z26)) : ∀ i, i < l.reverse.length → fitsN n (l.reverse.getD i z26) := by
  intro i hi
  have hi2 : i < l.length := by simpa using hi
  have h := hf (l.length - 1 - i) (by omega)
  rw [List.getD_eq_getElem?_getD, List.getElem?_reverse hi2, ← List.getD_eq_getElem?_getD]
  exact h
set_option maxHeartbeats 3200000 in
set_option maxRecDepth 100000 in
theorem listedReverse_call {n : Nat} (l : List S26) (A : Option Addr) (c : Nat) (w : World) (hf : ∀ i, i < l.length → fitsN n (l.getD i z26)) (hl : l.length ≤ 300) (hA : k26.C w A l.length l) :
    Calls Try.prog 57 #[.func (.func 58) #[] #[], .slice A l.length c] w fun e w' => ∃ v, e = .returned (.tuple #[v, .bool true]) ∧ Kd.R k26 26 w' w.heap.size (fun _ => True) v (l.reverse.map (normN n)) ∧ Below w.heap.size w w' := by
  have HG := Lib.hid (goList_all n l A c w hf hl hA)
  have HF := Lib.hid hf
  clear hf hA
  go_enter Try.func57, Try.ntmps57
  go_wp2_with fail
  refine HG.out.mono ?_
  rintro e w1 ⟨u, rfl, hr1, hb1⟩
  have HB1 := Lib.hid hb1
  have HRF := Lib.hid (Reverse_fn n l u _ w1 HF.out hl hr1)
  clear hr1 hb1 HG
  go_wp2_with fail
  refine HRF.out.mono ?_
  rintro e w2 ⟨u', rfl, hr2, hb2⟩
  have HB2 := Lib.hid (HB1.out.trans (hb2.mono HB1.out.size))
  have HV := Lib.hid (fun (W : World) (hb : Below w2.heap.size w2 W) => vals_all n l.reverse u' _ W (rev_fits HF.out) (by simpa using hl) (hr2.below hb))
  clear hr2 hb2 HRF
  go_wp2_with fail
  refine start_ (n := 6) (ds := []) (S := fun _ => True) #[false, false, false, false, false, false] (by kernel_rfl) rfl rfl trivial (fun hHeld => ?_)
  refine pure_ (i := 0) (N := some 24) (v := ?_) (a' := ?_) #[true, false, false, false, false, false] rfl rfl (by kernel_rfl) (fun _ _ _ h => h) (Or.inl ⟨by rfl, ?_⟩) ?_ ?_
  rotate_left; (intro w'; go_simp; with_reducible rfl)
  rotate_left; (go_frame; rfl)
  refine pure_ (i := 2) (N := some 26) (v := ?_) (a' := ?_) #[true, false, true, false, false, false] rfl rfl (by kernel_rfl) (fun _ _ _ h => h) (Or.inl ⟨by rfl, ?_⟩) ?_ ?_
  rotate_left; (intro w'; go_simp; with_reducible rfl)
  rotate_left; (go_frame; rfl)
  refine pure_ (i := 3) (N := some 27) (v := ?_) (a' := ?_) #[true, false, true, true, false, false] rfl rfl (by kernel_rfl) (fun _ _ _ h => h) (Or.inl ⟨by rfl, ?_⟩) ?_ ?_
  rotate_left; (intro w'; go_simp; with_reducible rfl)
  rotate_left; (go_frame; rfl)
  refine one_ (i := 1) (N := some 25) #[true, true, true, true, false, false] rfl rfl (by kernel_rfl) (by decide) (fun K hK => ?_)
  refine goes_ Try.func53 (by kernel_rfl) rfl #[u'] (by rfl) rfl rfl (by (try simp only [List.map_toArray, List.map_cons, List.map_nil]); first | done | rfl) ?_
  refine (HV.out _ (Below.refl w2.heap.size w2).drew).mono ?_
  rintro e w3 ⟨v, rfl, hr3, hb3⟩
  refine ⟨_, rfl, ?_⟩
  have HR3 := Lib.hid (Kd.R_lower hr3 (show w.heap.size ≤ w2.drew.heap.size from HB2.out.size))
  have HB3 := Lib.hid (HB2.out.drew.trans (hb3.mono (show w.heap.size ≤ w2.drew.heap.size from HB2.out.size)))
  clear hr3 hb3 HV
  refine hK.out _ _ trivial (fun hHeld => ?_)
  clear hK K
  refine norm_ (a' := ?_) ?_ ?_
  rotate_left
  · show Act.put _ (some 25) _ = _
    go_frame
    rfl
  refine pure_ (i := 4) (N := some 4) (v := ?_) (a' := ?_) #[true, true, true, true, true, false] rfl rfl (by kernel_rfl) (fun _ _ _ h => h) (Or.inl ⟨by rfl, ?_⟩) ?_ ?_
  rotate_left; (intro w'; go_simp; with_reducible rfl)
  rotate_left; (go_frame; rfl)
  refine pure_ (i := 5) (N := some 5) (v := ?_) (a' := ?_) #[true, true, true, true, true, true] rfl rfl (by kernel_rfl) (fun _ _ _ h => h) (Or.inl ⟨by rfl, ?_⟩) ?_ ?_
  rotate_left; (intro w'; go_simp; with_reducible rfl)
  rotate_left; (go_frame; rfl)
  refine done_ (by kernel_rfl) ?_
  go_wp2
  go_ret2
  exact ⟨_, rfl, HR3.out, HB3.out⟩
theorem implReverse_call {n : Nat} (l : List S26) (A : Option Addr) (c : Nat) (w : World) (hf : ∀ i, i < l.length → fitsN n (l.getD i z26)) (hl : l.length ≤ 300) (hA : k26.C w A l.length l) :
    Calls Try.prog 28 #[.slice A l.length c] w fun e w' => ∃ v, e = .returned (.tuple #[v, .bool true]) ∧ Kd.R k26 26 w' w.heap.size (fun _ => True) v (l.reverse.map (normN n)) ∧ Below w.heap.size w w' := by
  have HL := Lib.hid (listedReverse_call l A c w hf hl hA)
  clear hf hA
  go_enter Try.func28, Try.ntmps28
  go_wp2_with fail
  refine HL.out.mono ?_
  rintro e w1 ⟨v, rfl, hr1, hb1⟩
  have HR1 := Lib.hid hr1
  have HB1 := Lib.hid hb1
  clear hr1 hb1 HL
  go_wp2
  go_ret2
  exact ⟨_, rfl, HR1.out, HB1.out⟩
end Go.Proofs.Ytlefdkemgfjieaa.P
