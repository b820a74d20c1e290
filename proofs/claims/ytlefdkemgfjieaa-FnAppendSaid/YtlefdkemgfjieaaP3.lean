/- FnAppend holds of every list and value. -/
import Derived.Test.YtlefdkemgfjieaaP2
import Derived.Test.YtlefdkemgfjieaaR4
set_option linter.unusedVariables false
set_option linter.unusedSimpArgs false
namespace Go.Proofs.Ytlefdkemgfjieaa.P
open Go.RowKit Go.Proofs.YtlefdkemgfjieaaW.PrintWords Go.Proofs.YtlefdkemgfjieaaW.PrintLast Go.Proofs.YtlefdkemgfjieaaW.PrintMore
attribute [local go_sem] run_store_float

/-- Elements that were values in world w0. -/
def kd0 (w0 : World) : Kd S26 where
  sz := 6
  E := []
  K := fun _ x cs => k26.K w0 x cs
  M := fun _ _ _ x cs => k26.K w0 x cs
  K_len := fun h => k26.K_len h
  K_one := fun h => k26.K_one h
  K_below := fun _ h => h
  K_of_M := fun h => h
  M_mono := fun _ h => h
  M_bound := fun h => h
  M_move := fun _ h => h
  M_lower := fun _ h => h
theorem kd0_C {w0 w : World} {A : Option Addr} {n : Nat} {xs : List S26} (h : (kd0 w0).C w A n xs) (hb : Below w0.heap.size w0 w) : k26.C w A n xs := ReadsRow.imp_ h (Below.refl _ _) (fun _ _ hp => k26.K_below hb hp)
theorem rows0 {w0 w : World} {A : Option Addr} {n : Nat} {xs : List S26} (h : k26.C w0 A n xs) (hb : Below w0.heap.size w0 w) : ReadsRow (k26.K w0) 6 w A n xs := ReadsRow.imp_ h hb (fun _ _ hp => hp)
theorem one_reads {w : World} {x : S26} {cs : Array Value} (W : World) (t : TypeId) (h : k26.K w x cs.toList) : ReadsRow (k26.K w) 6 (W.alloc (.cells cs t)) (some ⟨W.heap.size, 0, none⟩) 1 [x] := by
  have hn := heap_alloc_new W (.cells cs t)
  refine ⟨rfl, by decide, fun _ => ⟨_, rfl, fun j p hj => ?_⟩⟩
  have hj0 : j = 0 := by
    have := (List.getElem?_eq_some_iff.1 hj).1
    simpa using this
  subst hj0
  have hp : x = p := by simpa using hj
  subst hp
  refine ⟨cs.toList, k26.K_len h, h, fun i u hu => ?_⟩
  rw [Nat.zero_mul, Nat.zero_add, Addr.add_lit, Nat.zero_add]
  rw [blk_cell (show (W.alloc (.cells cs t)).heap[W.heap.size]? = some (.cells cs t (0, 0)) from hn) i]
  simpa using hu
theorem rows_grown {α : Type} {R : α → List Value → Prop} {s : Nat} {w w' : World} {a : Addr} {n : Nat} {xs : List α} {row : Option Nat} (h : ReadsRow R s w (some a) n xs) (hb : w.grownBy w' row) (hlt : a.block < w.heap.size) (hne : some a.block ≠ row) : ReadsRow R s w' (some a) n xs := by
  refine ⟨h.1, h.2.1, fun hn => ?_⟩
  obtain ⟨ad, e, hc⟩ := h.2.2 hn
  injection e with e
  subst e
  refine ⟨a, rfl, fun j p hj => ?_⟩
  obtain ⟨c, h1, h2, h3⟩ := hc j p hj
  refine ⟨c, h1, h2, fun i u hu => ?_⟩
  have := h3 i u hu
  rw [← this]
  unfold World.cell?
  have e2 : (a.add (j * s + i)).block = a.block := by cases a; simp only [Addr.add]; split <;> rfl
  rw [e2, hb.block a.block hlt hne]
theorem reps_one {w : World} {x : S26} {cs : List Value} (h : k26.K w x cs) : Reps (k26.K w) 6 [x] cs := Reps.snoc (Reps.none _ _) h (k26.K_len h)
set_option maxHeartbeats 3200000 in
set_option maxRecDepth 100000 in
theorem fnAppend (l : List S26) (x : S26) (A : Option Addr) (c : Nat) (A4 : Option Addr) (c4 : Nat) (A5 : Option Addr) (c5 : Nat) (w : World) (hw : ∀ y ∈ l, Whole64 y) (hx : Whole64 x) (hA : k26.C w A l.length l) (hc : l.length ≤ c) (hr : RowsAt x A4 c4 A5 c5 w) :
    Calls Try.prog 8 #[.slice A l.length c, aggOf x A4 c4 A5 c5] w fun e w' => e = .returned (.bool true) ∧ Below w.heap.size w w' := by
  obtain ⟨r1, hr1⟩ := zz1_con x A4 c4 A5 c5
  obtain ⟨r2, ht2, hr2⟩ := AllRight_con l A c
  obtain ⟨r3, ht3, hr3⟩ := Right_con x A4 c4 A5 c5
  have HW := Lib.hid hw
  have HXW := Lib.hid hx
  have HA := Lib.hid hA
  have HRX := Lib.hid hr
  have HR1 := Lib.hid hr1
  have HR2 := Lib.hid hr2
  have HR3 := Lib.hid hr3
  have HT2 := Lib.hid ht2
  have HT3 := Lib.hid ht3
  obtain ⟨W2, hW2⟩ : ∃ W2, W2 = w.alloc (.cells #[.int .i64 x.f0, .int .i64 x.f1, .float .f64 x.f2, .string x.f3, .slice A4 x.f4.length c4, .slice A5 x.f5.length c5] 26) := ⟨_, rfl⟩
  have HW2 := Lib.hid hW2
  have HB0 := Lib.hid (show Below w.heap.size w W2 by rw [hW2]; exact (Below.refl _ _).alloc (Nat.le_refl _) _)
  have HX0 := Lib.hid (show W2.heap[w.heap.size]? = some (.cells #[.int .i64 x.f0, .int .i64 x.f1, .float .f64 x.f2, .string x.f3, .slice A4 x.f4.length c4, .slice A5 x.f5.length c5] 26 (0, 0)) by rw [hW2]; exact blk_new w _)
  have HZ0 := Lib.hid (show w.heap.size < W2.heap.size by rw [hW2]; simp)
  have HKX := Lib.hid (show k26.K w x (#[.int .i64 x.f0, .int .i64 x.f1, .float .f64 x.f2, .string x.f3, .slice A4 x.f4.length c4, .slice A5 x.f5.length c5] : Array Value).toList from k26_mk w x hr.2.1 hr.1 hr.2.2.2 hr.2.2.1)
  clear hw hx hA hr hr1 hr2 hr3 ht2 ht3 hW2
  unfold aggOf at HR1 HR3
  unfold aggOf
  by_cases hk0 : 2147483647 < (l.length : Int)
  · have hd0 : decide (2147483647 < (l.length : Int)) = true := decide_eq_true hk0
    go_enter Try.func8, Try.ntmps8
    go_wp2
    go_ret
    exact ⟨rfl, by rw [← HW2.out]; exact HB0.out⟩
  have hd0 : decide (2147483647 < (l.length : Int)) = false := decide_eq_false hk0
  go_enter Try.func8, Try.ntmps8
  go_wp2_with fail
  rw [← HW2.out]
  clear HW2
  refine (HR1.out W2 (HRX.out.below HB0.out)).mono ?_
  rintro e w1 ⟨rfl, hb1⟩
  have HB1 := Lib.hid (HB0.out.trans (hb1.mono HB0.out.size))
  have HZ1 := Lib.hid (Nat.lt_of_lt_of_le HZ0.out hb1.size)
  have hx1 := blk_below HX0.out hb1
  have HX1 := Lib.hid hx1
  obtain ⟨p0, p1, p2, p3, p4, p5⟩ := cells6 hx1
  clear hb1 hx1 HX0 HB0 HZ0 HR1 hk0 hd0
  cases r1
  · go_wp2
    go_ret
    exact ⟨rfl, HB1.out⟩
  go_wp2_with fail
  refine (HR2.out w1 (Kd.C_below HA.out HB1.out) hc).mono ?_
  rintro e w2 ⟨rfl, hb2⟩
  have HB2 := Lib.hid (HB1.out.trans (hb2.mono HB1.out.size))
  have HZ2 := Lib.hid (Nat.lt_of_lt_of_le HZ1.out hb2.size)
  have hx2 := blk_below HX1.out hb2
  have HX2 := Lib.hid hx2
  clear p0 p1 p2 p3 p4 p5
  obtain ⟨p0, p1, p2, p3, p4, p5⟩ := cells6 hx2
  clear hb2 hx2 HX1 HB1 HZ1 HR2
  cases r2
  · go_wp2
    go_ret
    exact ⟨rfl, HB2.out⟩
  go_wp2_with fail
  refine (HR3.out w2 (HRX.out.below HB2.out)).mono ?_
  rintro e w3 ⟨rfl, hb3⟩
  have HB3 := Lib.hid (HB2.out.trans (hb3.mono HB2.out.size))
  have HZ3 := Lib.hid (Nat.lt_of_lt_of_le HZ2.out hb3.size)
  have hx3 := blk_below HX2.out hb3
  have HX3 := Lib.hid hx3
  clear p0 p1 p2 p3 p4 p5
  obtain ⟨p0, p1, p2, p3, p4, p5⟩ := cells6 hx3
  clear hb3 hx3 HX2 HB2 HZ2 HR3
  cases r3
  · go_wp2
    go_ret
    exact ⟨rfl, HB3.out⟩
  obtain ⟨hl60, hright⟩ := HT2.out (by trivial)
  have HFIT := Lib.hid (lists_fit hright HW.out)
  have HRIGHT := Lib.hid hright
  have HXR := Lib.hid (HT3.out (by trivial))
  have HXF := Lib.hid (right_fits (HT3.out (by trivial)) HXW.out)
  have HAP := Lib.hid (implAppend_call (n := 8) l A c x A4 c4 A5 c5 w3 HFIT.out (by omega) (Kd.C_below HA.out HB3.out) HXF.out (HRX.out.below HB3.out))
  have HL := Lib.hid hl60
  unfold aggOf at HAP
  clear hright hl60 HT2 HT3
  go_wp2_with fail
  refine HAP.out.mono ?_
  rintro e w4 ⟨va, rfl, hra, hb4⟩
  have HB4 := Lib.hid (HB3.out.trans (hb4.mono HB3.out.size))
  have HZ4 := Lib.hid (Nat.lt_of_lt_of_le HZ3.out hb4.size)
  have hx4 := blk_below HX3.out hb4
  have HX4 := Lib.hid hx4
  clear p0 p1 p2 p3 p4 p5
  obtain ⟨p0, p1, p2, p3, p4, p5⟩ := cells6 hx4
  obtain ⟨Aa, ca, rfl, lea, hCa⟩ := Kd.R_reads hra
  have HCA := Lib.hid hCa
  obtain ⟨la, hla⟩ : ∃ la, la = (l ++ [x]).map (normN 8) := ⟨_, rfl⟩
  rw [← hla] at HCA lea ⊢
  have HLA := Lib.hid hla
  have HPP := Lib.hid (implPrepend_call (n := 8) l A c x A4 c4 A5 c5 w4 HFIT.out (by have := HL.out; omega) (Kd.C_below HA.out HB4.out) HXF.out (HRX.out.below HB4.out))
  unfold aggOf at HPP
  clear hb4 hx4 hra hCa hla HX3 HB3 HZ3 HAP
  go_wp2_with fail
  refine HPP.out.mono ?_
  rintro e w5 ⟨vb, rfl, hrb, hb5⟩
  have HB5 := Lib.hid (HB4.out.trans (hb5.mono HB4.out.size))
  have HZ5 := Lib.hid (Nat.lt_of_lt_of_le HZ4.out hb5.size)
  have HX5 := Lib.hid (blk_below HX4.out hb5)
  have HCA5 := Lib.hid (Kd.C_below HCA.out hb5)
  obtain ⟨Ab, cb, rfl, leb, hCb⟩ := Kd.R_reads hrb
  have HCB := Lib.hid hCb
  obtain ⟨lb, hlb⟩ : ∃ lb, lb = (x :: l).map (normN 8) := ⟨_, rfl⟩
  rw [← hlb] at HCB leb ⊢
  have HLB := Lib.hid hlb
  clear p0 p1 p2 p3 p4 p5 hb5 hrb hCb hlb HX4 HB4 HZ4 HPP HCA
  go_wp2_with fail
  refine start_ (n := 23) (ds := []) (S := fun w' => w'.heap[w.heap.size]? = some (.cells #[.int .i64 x.f0, .int .i64 x.f1, .float .f64 x.f2, .string x.f3, .slice A4 x.f4.length c4, .slice A5 x.f5.length c5] 26 (0, 0))) #[false, false, false, false, false, false, false, false, false, false, false, false, false, false, false, false, false, false, false, false, false, false, false] (by kernel_rfl) rfl rfl (blk_drew HX5.out) (fun hHeld => ?_)
  obtain ⟨V0, hV0⟩ : ∃ q, q = w5.drew := ⟨_, rfl⟩
  have HBV0 := Lib.hid (show Below w.heap.size w V0 by rw [hV0]; exact HB5.out.drew)
  have HSV0 := Lib.hid (show V0.heap[w.heap.size]? = some (.cells #[.int .i64 x.f0, .int .i64 x.f1, .float .f64 x.f2, .string x.f3, .slice A4 x.f4.length c4, .slice A5 x.f5.length c5] 26 (0, 0)) by rw [hV0]; exact blk_drew HX5.out)
  have HZW := Lib.hid (show w.heap.size < V0.heap.size by rw [hV0]; exact HZ5.out)
  have HBE0 := Lib.hid (Below.refl V0.heap.size V0)
  have HCA0 := Lib.hid (show k26.C V0 Aa la.length la by rw [hV0]; exact Kd.C_below HCA5.out ((Below.refl _ _).drew))
  have HCB0 := Lib.hid (show k26.C V0 Ab lb.length lb by rw [hV0]; exact Kd.C_below HCB.out ((Below.refl _ _).drew))
  have HPA := Lib.hid (show (∀ i, i < la.length → fitsN 8 (la.getD i z26)) ∧ la.length ≤ 1000 ∧ SameListP 8 la (l ++ [x]) by rw [HLA.out]; exact ⟨norm_fit (app_fits HFIT.out HXF.out), by have := HL.out; simp; omega, sameList_norm (app_fits HRIGHT.out HXR.out)⟩)
  have HPB := Lib.hid (show (∀ i, i < lb.length → fitsN 8 (lb.getD i z26)) ∧ lb.length ≤ 1000 ∧ SameListP 8 lb ([x] ++ l) by rw [HLB.out]; exact ⟨norm_fit (cons_fits HFIT.out HXF.out), by have := HL.out; simp; omega, sameList_norm (cons_fits HRIGHT.out HXR.out)⟩)
  rw [← hV0] at hHeld ⊢
  clear hV0 HB5 HX5 HZ5 HCA5 HCB HLA HLB HFIT HXF HRIGHT HXR HW HXW HRX
  refine pure_ (i := 0) (N := some 37) (v := ?_) (a' := ?_) #[true, false, false, false, false, false, false, false, false, false, false, false, false, false, false, false, false, false, false, false, false, false, false] rfl rfl (by kernel_rfl) (fun _ _ _ h => h) (Or.inl ⟨by rfl, ?_⟩) ?_ ?_
  rotate_left; (intro w'; go_simp; with_reducible rfl)
  rotate_left; (go_frame; rfl)
  refine pure_ (i := 1) (N := some 38) (v := ?_) (a' := ?_) #[true, true, false, false, false, false, false, false, false, false, false, false, false, false, false, false, false, false, false, false, false, false, false] rfl rfl (by kernel_rfl) (fun _ _ _ h => h) (Or.inl ⟨by rfl, ?_⟩) ?_ ?_
  rotate_left; (intro w'; go_simp; with_reducible rfl)
  rotate_left; (go_frame; rfl)
  refine pure_ (i := 2) (N := some 39) (v := ?_) (a' := ?_) #[true, true, true, false, false, false, false, false, false, false, false, false, false, false, false, false, false, false, false, false, false, false, false] rfl rfl (by kernel_rfl) (fun _ _ _ h => h) (Or.inl ⟨by rfl, ?_⟩) ?_ ?_
  rotate_left; (intro w'; go_simp; with_reducible rfl)
  rotate_left; (go_frame; rfl)
  refine pure_ (i := 3) (N := some 40) (v := ?_) (a' := ?_) #[true, true, true, true, false, false, false, false, false, false, false, false, false, false, false, false, false, false, false, false, false, false, false] rfl rfl (by kernel_rfl) (fun _ _ _ h => h) (Or.inl ⟨by rfl, ?_⟩) ?_ ?_
  rotate_left; (intro w'; go_simp; with_reducible rfl)
  rotate_left; (go_frame; rfl)
  refine pure_ (i := 4) (N := some 41) (v := ?_) (a' := ?_) #[true, true, true, true, true, false, false, false, false, false, false, false, false, false, false, false, false, false, false, false, false, false, false] rfl rfl (by kernel_rfl) (fun _ _ _ h => h) (Or.inl ⟨by rfl, ?_⟩) ?_ ?_
  rotate_left; (intro w'; go_simp; with_reducible rfl)
  rotate_left; (go_frame; rfl)
  refine pure_ (i := 5) (N := some 42) (v := ?_) (a' := ?_) #[true, true, true, true, true, true, false, false, false, false, false, false, false, false, false, false, false, false, false, false, false, false, false] rfl rfl (by kernel_rfl) (fun _ _ _ h => h) (Or.inl ⟨by rfl, ?_⟩) ?_ ?_
  rotate_left; (intro w'; go_simp; with_reducible rfl)
  rotate_left; (go_frame; rfl)
  refine pure_ (i := 7) (N := some 44) (v := ?_) (a' := ?_) #[true, true, true, true, true, true, false, true, false, false, false, false, false, false, false, false, false, false, false, false, false, false, false] rfl rfl (by kernel_rfl) (fun _ _ _ h => h) (Or.inl ⟨by rfl, ?_⟩) ?_ ?_
  rotate_left; (intro w'; go_simp; with_reducible rfl)
  rotate_left; (go_frame; rfl)
  refine take_ (i := 9) (N := some 46) (v := ?_) (a' := ?_) #[true, true, true, true, true, true, false, true, false, true, false, false, false, false, false, false, false, false, false, false, false, false, false] rfl rfl (by kernel_rfl) (fun _ _ _ h => h) (Or.inl ⟨by rfl, ?_⟩) hHeld ?_ ?_
  rotate_left
  · intro w' hS
    obtain ⟨p0, p1, p2, p3, p4, p5⟩ := cells6 hS
    go_simp
    with_reducible rfl
  rotate_left; (go_frame; rfl)
  refine two_ (i := 6) (j := 10) (Ni := some 43) (Nj := some 47) #[true, true, true, true, true, true, true, true, false, true, false, false, false, false, false, false, false, false, false, false, false, false, false] #[true, true, true, true, true, true, false, true, false, true, true, false, false, false, false, false, false, false, false, false, false, false, false] rfl rfl rfl rfl (by kernel_rfl) (by decide) (by decide) (fun K hK => ?_) (fun K hK => ?_)
  · refine value_ (w1 := V0.alloc (.cells #[] 26)) (v := .slice (some ⟨V0.heap.size, 0, none⟩) 0 0) (by rfl) rfl ?_ ?_
    · go_simp
    obtain ⟨V1, hV⟩ : ∃ q, q = V0.alloc (.cells #[] 26) := ⟨_, rfl⟩
    have hal : Below V0.heap.size V0 V1 := by rw [hV]; exact (Below.refl _ _).alloc (Nat.le_refl _) _
    have HBV1 := Lib.hid (HBV0.out.trans (hal.mono HBV0.out.size))
    have HBE1 := Lib.hid (HBE0.out.trans (hal.mono HBE0.out.size))
    have HSV1 := Lib.hid (blk_below HSV0.out hal)
    have HZ1 := Lib.hid (show V0.heap.size < V1.heap.size by rw [hV]; simp)
    have HO6 := Lib.hid (show (kd0 w).R 26 V1 w.heap.size (fun q => V0.heap.size ≤ q) (.slice (some ⟨V0.heap.size, 0, none⟩) 0 0) [] from ⟨fun k hk => by have h2 : V0.heap.size = k := (by simpa [Value.ownBlock] using hk); subst h2; exact (by have := HZ1.out; omega), by rw [hV]; exact OwnRow.lit (inner := []) V0 w.heap.size (Reps.none _ _) HBV0.out.size (by decide)⟩)
    rw [← hV]
    clear hV hal hHeld
    refine hK.out _ _ HSV1.out (fun hHeld => ?_)
    clear hK K
    refine norm_ (a' := ?_) ?_ ?_
    rotate_left
    · show Act.put _ (some 43) _ = _
      go_frame
      rfl
    refine two_ (i := 8) (j := 10) (Ni := some 45) (Nj := some 47) #[true, true, true, true, true, true, true, true, true, true, false, false, false, false, false, false, false, false, false, false, false, false, false] #[true, true, true, true, true, true, true, true, false, true, true, false, false, false, false, false, false, false, false, false, false, false, false] rfl rfl rfl rfl (by kernel_rfl) (by decide) (by decide) (fun K hK => ?_) (fun K hK => ?_)
    · refine Kd.R_append_rows_step (kd0 w) (w0 := w) w.heap.size (by rfl) _ _ 24 26 (.agg #[(.int .i64 0), (.int .i64 0), (.float .f64 0), (.string ⟨#[]⟩), (.slice none 0 0), (.slice none 0 0)]) 88 rfl Try.underlying24 info_val rfl (Nat.succ_pos 5) (by decide) (.slice (some ⟨V0.heap.size, 0, none⟩) 0 0) [] l A l.length c (fun q => V0.heap.size ≤ q) (fun _ => False) rfl rfl HO6.out (rows0 HA.out HBV1.out) (fun _ _ h => h) (fun _ h => h.elim) (fun q hq => Nat.le_trans (by have := HZ1.out; omega) hq) HBV1.out HBV1.out.size (by have := HL.out; simp; omega) ?_
      intro v45 V2 ho hb8 hg8 hat8
      have HBV2 := Lib.hid hb8
      have HZ2 := Lib.hid hg8.size
      have HBE2 := Lib.hid (Below.grown HBE1.out hg8 (by have := HZ1.out; omega) (fun q hq => HO6.out.1 q hq))
      have HSV2 := Lib.hid (blk_grown HSV1.out hg8 (fun h => by have h3 := HO6.out.1 _ h.symm; have := HZW.out; omega))
      rw [List.nil_append] at ho
      have HO8 := Lib.hid ho
      clear ho hb8 hg8 hat8 hHeld
      refine hK.out _ _ HSV2.out (fun hHeld => ?_)
      clear hK K
      refine norm_ (a' := ?_) ?_ ?_
      rotate_left
      · show Act.put _ (some 45) _ = _
        go_frame
        rfl
      refine one_ (i := 10) (N := some 47) #[true, true, true, true, true, true, true, true, true, true, true, false, false, false, false, false, false, false, false, false, false, false, false] rfl rfl (by kernel_rfl) (by decide) (fun K hK => ?_)
      refine value_ (w1 := V2.alloc (.cells #[.int .i64 x.f0, .int .i64 x.f1, .float .f64 x.f2, .string x.f3, .slice A4 x.f4.length c4, .slice A5 x.f5.length c5] 26)) (v := .slice (some ⟨V2.heap.size, 0, none⟩) 1 1) (by rfl) rfl ?_ ?_
      · go_simp
      obtain ⟨V3, hV⟩ : ∃ q, q = V2.alloc (.cells #[.int .i64 x.f0, .int .i64 x.f1, .float .f64 x.f2, .string x.f3, .slice A4 x.f4.length c4, .slice A5 x.f5.length c5] 26) := ⟨_, rfl⟩
      have hal : Below V2.heap.size V2 V3 := by rw [hV]; exact (Below.refl _ _).alloc (Nat.le_refl _) _
      have HBV3 := Lib.hid (HBV2.out.trans (hal.mono HBV2.out.size))
      have HBE3 := Lib.hid (HBE2.out.trans (hal.mono HBE2.out.size))
      have HSV3 := Lib.hid (blk_below HSV2.out hal)
      have HZ3 := Lib.hid (show V2.heap.size < V3.heap.size by rw [hV]; simp)
      have HO8 := Lib.hid (Kd.R_below HO8.out hal)
      have HX10 := Lib.hid (show ReadsRow (k26.K w) 6 V3 (some ⟨V2.heap.size, 0, none⟩) 1 [x] by rw [hV]; exact one_reads V2 _ HKX.out)
      rw [← hV]
      clear hV hal hHeld
      refine hK.out _ _ HSV3.out (fun hHeld => ?_)
      clear hK K
      refine norm_ (a' := ?_) ?_ ?_
      rotate_left
      · show Act.put _ (some 47) _ = _
        go_frame
        rfl
      refine one_ (i := 11) (N := some 48) #[true, true, true, true, true, true, true, true, true, true, true, true, false, false, false, false, false, false, false, false, false, false, false] rfl rfl (by kernel_rfl) (by decide) (fun K hK => ?_)
      refine Kd.R_append_rows_step (kd0 w) (w0 := w) w.heap.size (by rfl) _ _ 24 26 (.agg #[(.int .i64 0), (.int .i64 0), (.float .f64 0), (.string ⟨#[]⟩), (.slice none 0 0), (.slice none 0 0)]) 88 rfl Try.underlying24 info_val rfl (Nat.succ_pos 5) (by decide) (v45) l [x] (some ⟨V2.heap.size, 0, none⟩) 1 1 (fun q => V0.heap.size ≤ q) (fun _ => False) rfl rfl HO8.out HX10.out (fun _ _ h => h) (fun _ h => h.elim) (fun q hq => Nat.le_trans (by have := HZ1.out; have := HZ2.out; have := HZ3.out; omega) hq) HBV3.out HBV3.out.size (by have := HL.out; simp; omega) ?_
      intro v48 V4 ho hb8 hg8 hat8
      have HBV4 := Lib.hid hb8
      have HZ4 := Lib.hid hg8.size
      have HBE4 := Lib.hid (Below.grown HBE3.out hg8 (by have := HZ1.out; have := HZ2.out; have := HZ3.out; omega) (fun q hq => HO8.out.1 q hq))
      have HSV4 := Lib.hid (blk_grown HSV3.out hg8 (fun h => by have h3 := HO8.out.1 _ h.symm; have := HZW.out; omega))
      have HO11 := Lib.hid ho
      clear ho hb8 hg8 hat8 hHeld
      refine hK.out _ _ HSV4.out (fun hHeld => ?_)
      clear hK K
      refine norm_ (a' := ?_) ?_ ?_
      rotate_left
      · show Act.put _ (some 48) _ = _
        go_frame
        rfl
      refine one_ (i := 12) (N := some 49) #[true, true, true, true, true, true, true, true, true, true, true, true, true, false, false, false, false, false, false, false, false, false, false] rfl rfl (by kernel_rfl) (by decide) (fun K hK => ?_)
      obtain ⟨A48, c48, hv48, le48, hC48⟩ := Kd.R_reads HO11.out
      subst hv48
      have hsl := sameList_all 8 la (l ++ [x]) Aa ca A48 c48 V4 HPA.out.1 HPA.out.2.1 (Kd.C_below HCA0.out HBE4.out) lea (kd0_C hC48 HBV4.out) le48
      refine goes_ Try.func24 (by kernel_rfl) rfl #[.slice Aa la.length ca, .slice A48 (l ++ [x]).length c48] (by rfl) rfl rfl (by (try simp only [List.map_toArray, List.map_cons, List.map_nil]); first | done | rfl) ?_
      refine hsl.mono ?_
      rintro e V5 ⟨rr, rfl, hq, hbs⟩
      obtain rfl : rr = true := hq.2 HPA.out.2.2
      refine ⟨_, rfl, ?_⟩
      have HBV5 := Lib.hid (HBV4.out.trans (hbs.mono HBV4.out.size))
      have HBE5 := Lib.hid (HBE4.out.trans (hbs.mono HBE4.out.size))
      have HSV5 := Lib.hid (blk_below HSV4.out hbs)
      have HZ5 := Lib.hid hbs.size
      clear hsl hq hbs hC48 hHeld
      refine hK.out _ _ HSV5.out (fun hHeld => ?_)
      clear hK K
      refine norm_ (a' := ?_) ?_ ?_
      rotate_left
      · show Act.put _ (some 49) _ = _
        go_frame
        rfl
      refine pure_ (i := 13) (N := some 50) (v := ?_) (a' := ?_) #[true, true, true, true, true, true, true, true, true, true, true, true, true, true, false, false, false, false, false, false, false, false, false] rfl rfl (by kernel_rfl) (fun _ _ _ h => h) (Or.inl ⟨by rfl, ?_⟩) ?_ ?_
      rotate_left; (intro w'; go_simp; with_reducible rfl)
      rotate_left; (go_frame; rfl)
      refine pure_ (i := 14) (N := some 51) (v := ?_) (a' := ?_) #[true, true, true, true, true, true, true, true, true, true, true, true, true, true, true, false, false, false, false, false, false, false, false] rfl rfl (by kernel_rfl) (fun _ _ _ h => h) (Or.inl ⟨by rfl, ?_⟩) ?_ ?_
      rotate_left; (intro w'; go_simp; with_reducible rfl)
      rotate_left; (go_frame; rfl)
      refine pure_ (i := 15) (N := some 52) (v := ?_) (a' := ?_) #[true, true, true, true, true, true, true, true, true, true, true, true, true, true, true, true, false, false, false, false, false, false, false] rfl rfl (by kernel_rfl) (fun _ _ _ h => h) (Or.inl ⟨by rfl, ?_⟩) ?_ ?_
      rotate_left; (intro w'; go_simp; with_reducible rfl)
      rotate_left; (go_frame; rfl)
      refine pure_ (i := 18) (N := some 55) (v := ?_) (a' := ?_) #[true, true, true, true, true, true, true, true, true, true, true, true, true, true, true, true, false, false, true, false, false, false, false] rfl rfl (by kernel_rfl) (fun _ _ _ h => h) (Or.inl ⟨by rfl, ?_⟩) ?_ ?_
      rotate_left; (intro w'; go_simp; with_reducible rfl)
      rotate_left; (go_frame; rfl)
      refine take_ (i := 16) (N := some 53) (v := ?_) (a' := ?_) #[true, true, true, true, true, true, true, true, true, true, true, true, true, true, true, true, true, false, true, false, false, false, false] rfl rfl (by kernel_rfl) (fun _ _ _ h => h) (Or.inl ⟨by rfl, ?_⟩) hHeld ?_ ?_
      rotate_left
      · intro w' hS
        obtain ⟨p0, p1, p2, p3, p4, p5⟩ := cells6 hS
        go_simp
        with_reducible rfl
      rotate_left; (go_frame; rfl)
      refine one_ (i := 17) (N := some 54) #[true, true, true, true, true, true, true, true, true, true, true, true, true, true, true, true, true, true, true, false, false, false, false] rfl rfl (by kernel_rfl) (by decide) (fun K hK => ?_)
      refine value_ (w1 := V5.alloc (.cells #[.int .i64 x.f0, .int .i64 x.f1, .float .f64 x.f2, .string x.f3, .slice A4 x.f4.length c4, .slice A5 x.f5.length c5] 26)) (v := .slice (some ⟨V5.heap.size, 0, none⟩) 1 1) (by rfl) rfl ?_ ?_
      · go_simp
      obtain ⟨V6, hV⟩ : ∃ q, q = V5.alloc (.cells #[.int .i64 x.f0, .int .i64 x.f1, .float .f64 x.f2, .string x.f3, .slice A4 x.f4.length c4, .slice A5 x.f5.length c5] 26) := ⟨_, rfl⟩
      have hal : Below V5.heap.size V5 V6 := by rw [hV]; exact (Below.refl _ _).alloc (Nat.le_refl _) _
      have HBV6 := Lib.hid (HBV5.out.trans (hal.mono HBV5.out.size))
      have HBE6 := Lib.hid (HBE5.out.trans (hal.mono HBE5.out.size))
      have HSV6 := Lib.hid (blk_below HSV5.out hal)
      have HZ6 := Lib.hid (show V5.heap.size < V6.heap.size by rw [hV]; simp)
      have HO17 := Lib.hid (show (kd0 w).R 26 V6 w.heap.size (fun q => V0.heap.size ≤ q) (.slice (some ⟨V5.heap.size, 0, none⟩) 1 1) [x] from ⟨fun k hk => by have h2 : V5.heap.size = k := (by simpa [Value.ownBlock] using hk); subst h2; exact (by have := HZ1.out; have := HZ2.out; have := HZ3.out; have := HZ4.out; have := HZ5.out; have := HZ6.out; omega), by rw [hV]; exact OwnRow.lit (inner := [_, _, _, _, _, _]) V5 w.heap.size (reps_one HKX.out) HBV5.out.size (by simp)⟩)
      rw [← hV]
      clear hV hal hHeld
      refine hK.out _ _ HSV6.out (fun hHeld => ?_)
      clear hK K
      refine norm_ (a' := ?_) ?_ ?_
      rotate_left
      · show Act.put _ (some 54) _ = _
        go_frame
        rfl
      refine one_ (i := 19) (N := some 56) #[true, true, true, true, true, true, true, true, true, true, true, true, true, true, true, true, true, true, true, true, false, false, false] rfl rfl (by kernel_rfl) (by decide) (fun K hK => ?_)
      refine Kd.R_append_rows_step (kd0 w) (w0 := w) w.heap.size (by rfl) _ _ 24 26 (.agg #[(.int .i64 0), (.int .i64 0), (.float .f64 0), (.string ⟨#[]⟩), (.slice none 0 0), (.slice none 0 0)]) 88 rfl Try.underlying24 info_val rfl (Nat.succ_pos 5) (by decide) (.slice (some ⟨V5.heap.size, 0, none⟩) 1 1) [x] l A l.length c (fun q => V0.heap.size ≤ q) (fun _ => False) rfl rfl HO17.out (rows0 HA.out HBV6.out) (fun _ _ h => h) (fun _ h => h.elim) (fun q hq => Nat.le_trans (by have := HZ1.out; have := HZ2.out; have := HZ3.out; have := HZ4.out; have := HZ5.out; have := HZ6.out; omega) hq) HBV6.out HBV6.out.size (by have := HL.out; simp; omega) ?_
      intro v56 V7 ho hb8 hg8 hat8
      have HBV7 := Lib.hid hb8
      have HZ7 := Lib.hid hg8.size
      have HBE7 := Lib.hid (Below.grown HBE6.out hg8 (by have := HZ1.out; have := HZ2.out; have := HZ3.out; have := HZ4.out; have := HZ5.out; have := HZ6.out; omega) (fun q hq => HO17.out.1 q hq))
      have HSV7 := Lib.hid (blk_grown HSV6.out hg8 (fun h => by have h3 := HO17.out.1 _ h.symm; have := HZW.out; omega))
      have HO19 := Lib.hid ho
      clear ho hb8 hg8 hat8 hHeld
      refine hK.out _ _ HSV7.out (fun hHeld => ?_)
      clear hK K
      refine norm_ (a' := ?_) ?_ ?_
      rotate_left
      · show Act.put _ (some 56) _ = _
        go_frame
        rfl
      refine one_ (i := 20) (N := some 57) #[true, true, true, true, true, true, true, true, true, true, true, true, true, true, true, true, true, true, true, true, true, false, false] rfl rfl (by kernel_rfl) (by decide) (fun K hK => ?_)
      obtain ⟨A56, c56, hv56, le56, hC56⟩ := Kd.R_reads HO19.out
      subst hv56
      have hsl := sameList_all 8 lb ([x] ++ l) Ab cb A56 c56 V7 HPB.out.1 HPB.out.2.1 (Kd.C_below HCB0.out HBE7.out) leb (kd0_C hC56 HBV7.out) le56
      refine goes_ Try.func24 (by kernel_rfl) rfl #[.slice Ab lb.length cb, .slice A56 ([x] ++ l).length c56] (by rfl) rfl rfl (by (try simp only [List.map_toArray, List.map_cons, List.map_nil]); first | done | rfl) ?_
      refine hsl.mono ?_
      rintro e V8 ⟨rr, rfl, hq, hbs⟩
      obtain rfl : rr = true := hq.2 HPB.out.2.2
      refine ⟨_, rfl, ?_⟩
      have HBV8 := Lib.hid (HBV7.out.trans (hbs.mono HBV7.out.size))
      have HBE8 := Lib.hid (HBE7.out.trans (hbs.mono HBE7.out.size))
      have HSV8 := Lib.hid (blk_below HSV7.out hbs)
      have HZ8 := Lib.hid hbs.size
      clear hsl hq hbs hC56 hHeld
      refine hK.out _ _ HSV8.out (fun hHeld => ?_)
      clear hK K
      refine norm_ (a' := ?_) ?_ ?_
      rotate_left
      · show Act.put _ (some 57) _ = _
        go_frame
        rfl
      refine pure_ (i := 21) (N := some 58) (v := ?_) (a' := ?_) #[true, true, true, true, true, true, true, true, true, true, true, true, true, true, true, true, true, true, true, true, true, true, false] rfl rfl (by kernel_rfl) (fun _ _ _ h => h) (Or.inl ⟨by rfl, ?_⟩) ?_ ?_
      rotate_left; (intro w'; go_simp; with_reducible rfl)
      rotate_left; (go_frame; rfl)
      refine pure_ (i := 22) (N := some 4) (v := ?_) (a' := ?_) #[true, true, true, true, true, true, true, true, true, true, true, true, true, true, true, true, true, true, true, true, true, true, true] rfl rfl (by kernel_rfl) (fun _ _ _ h => h) (Or.inl ⟨by rfl, ?_⟩) ?_ ?_
      rotate_left; (intro w'; go_simp; with_reducible rfl)
      rotate_left; (go_frame; rfl)
      refine done_ (by kernel_rfl) ?_
      go_wp2
      go_ret
      exact ⟨rfl, HBV8.out⟩
    · refine value_ (w1 := V1.alloc (.cells #[.int .i64 x.f0, .int .i64 x.f1, .float .f64 x.f2, .string x.f3, .slice A4 x.f4.length c4, .slice A5 x.f5.length c5] 26)) (v := .slice (some ⟨V1.heap.size, 0, none⟩) 1 1) (by rfl) rfl ?_ ?_
      · go_simp
      obtain ⟨V2, hV⟩ : ∃ q, q = V1.alloc (.cells #[.int .i64 x.f0, .int .i64 x.f1, .float .f64 x.f2, .string x.f3, .slice A4 x.f4.length c4, .slice A5 x.f5.length c5] 26) := ⟨_, rfl⟩
      have hal : Below V1.heap.size V1 V2 := by rw [hV]; exact (Below.refl _ _).alloc (Nat.le_refl _) _
      have HBV2 := Lib.hid (HBV1.out.trans (hal.mono HBV1.out.size))
      have HBE2 := Lib.hid (HBE1.out.trans (hal.mono HBE1.out.size))
      have HSV2 := Lib.hid (blk_below HSV1.out hal)
      have HZ2 := Lib.hid (show V1.heap.size < V2.heap.size by rw [hV]; simp)
      have HO6 := Lib.hid (Kd.R_below HO6.out hal)
      have HX10 := Lib.hid (show ReadsRow (k26.K w) 6 V2 (some ⟨V1.heap.size, 0, none⟩) 1 [x] by rw [hV]; exact one_reads V1 _ HKX.out)
      rw [← hV]
      clear hV hal hHeld
      refine hK.out _ _ HSV2.out (fun hHeld => ?_)
      clear hK K
      refine norm_ (a' := ?_) ?_ ?_
      rotate_left
      · show Act.put _ (some 47) _ = _
        go_frame
        rfl
      refine one_ (i := 8) (N := some 45) #[true, true, true, true, true, true, true, true, true, true, true, false, false, false, false, false, false, false, false, false, false, false, false] rfl rfl (by kernel_rfl) (by decide) (fun K hK => ?_)
      refine Kd.R_append_rows_step (kd0 w) (w0 := w) w.heap.size (by rfl) _ _ 24 26 (.agg #[(.int .i64 0), (.int .i64 0), (.float .f64 0), (.string ⟨#[]⟩), (.slice none 0 0), (.slice none 0 0)]) 88 rfl Try.underlying24 info_val rfl (Nat.succ_pos 5) (by decide) (.slice (some ⟨V0.heap.size, 0, none⟩) 0 0) [] l A l.length c (fun q => V0.heap.size ≤ q) (fun _ => False) rfl rfl HO6.out (rows0 HA.out HBV2.out) (fun _ _ h => h) (fun _ h => h.elim) (fun q hq => Nat.le_trans (by have := HZ1.out; have := HZ2.out; omega) hq) HBV2.out HBV2.out.size (by have := HL.out; simp; omega) ?_
      intro v45 V3 ho hb8 hg8 hat8
      have HBV3 := Lib.hid hb8
      have HZ3 := Lib.hid hg8.size
      have HBE3 := Lib.hid (Below.grown HBE2.out hg8 (by have := HZ1.out; have := HZ2.out; omega) (fun q hq => HO6.out.1 q hq))
      have HSV3 := Lib.hid (blk_grown HSV2.out hg8 (fun h => by have h3 := HO6.out.1 _ h.symm; have := HZW.out; omega))
      rw [List.nil_append] at ho
      have HX10 := Lib.hid (rows_grown HX10.out hg8 (show V1.heap.size < V2.heap.size by have := HZ1.out; have := HZ2.out; omega) (fun h => by have h2 := (show V1.heap.size = V0.heap.size by simpa [Value.ownBlock] using h); have := HZ1.out; have := HZ1.out; omega))
      have HO8 := Lib.hid ho
      clear ho hb8 hg8 hat8 hHeld
      refine hK.out _ _ HSV3.out (fun hHeld => ?_)
      clear hK K
      refine norm_ (a' := ?_) ?_ ?_
      rotate_left
      · show Act.put _ (some 45) _ = _
        go_frame
        rfl
      refine one_ (i := 11) (N := some 48) #[true, true, true, true, true, true, true, true, true, true, true, true, false, false, false, false, false, false, false, false, false, false, false] rfl rfl (by kernel_rfl) (by decide) (fun K hK => ?_)
      refine Kd.R_append_rows_step (kd0 w) (w0 := w) w.heap.size (by rfl) _ _ 24 26 (.agg #[(.int .i64 0), (.int .i64 0), (.float .f64 0), (.string ⟨#[]⟩), (.slice none 0 0), (.slice none 0 0)]) 88 rfl Try.underlying24 info_val rfl (Nat.succ_pos 5) (by decide) (v45) l [x] (some ⟨V1.heap.size, 0, none⟩) 1 1 (fun q => V0.heap.size ≤ q) (fun _ => False) rfl rfl HO8.out HX10.out (fun _ _ h => h) (fun _ h => h.elim) (fun q hq => Nat.le_trans (by have := HZ1.out; have := HZ2.out; have := HZ3.out; omega) hq) HBV3.out HBV3.out.size (by have := HL.out; simp; omega) ?_
      intro v48 V4 ho hb8 hg8 hat8
      have HBV4 := Lib.hid hb8
      have HZ4 := Lib.hid hg8.size
      have HBE4 := Lib.hid (Below.grown HBE3.out hg8 (by have := HZ1.out; have := HZ2.out; have := HZ3.out; omega) (fun q hq => HO8.out.1 q hq))
      have HSV4 := Lib.hid (blk_grown HSV3.out hg8 (fun h => by have h3 := HO8.out.1 _ h.symm; have := HZW.out; omega))
      have HO11 := Lib.hid ho
      clear ho hb8 hg8 hat8 hHeld
      refine hK.out _ _ HSV4.out (fun hHeld => ?_)
      clear hK K
      refine norm_ (a' := ?_) ?_ ?_
      rotate_left
      · show Act.put _ (some 48) _ = _
        go_frame
        rfl
      refine one_ (i := 12) (N := some 49) #[true, true, true, true, true, true, true, true, true, true, true, true, true, false, false, false, false, false, false, false, false, false, false] rfl rfl (by kernel_rfl) (by decide) (fun K hK => ?_)
      obtain ⟨A48, c48, hv48, le48, hC48⟩ := Kd.R_reads HO11.out
      subst hv48
      have hsl := sameList_all 8 la (l ++ [x]) Aa ca A48 c48 V4 HPA.out.1 HPA.out.2.1 (Kd.C_below HCA0.out HBE4.out) lea (kd0_C hC48 HBV4.out) le48
      refine goes_ Try.func24 (by kernel_rfl) rfl #[.slice Aa la.length ca, .slice A48 (l ++ [x]).length c48] (by rfl) rfl rfl (by (try simp only [List.map_toArray, List.map_cons, List.map_nil]); first | done | rfl) ?_
      refine hsl.mono ?_
      rintro e V5 ⟨rr, rfl, hq, hbs⟩
      obtain rfl : rr = true := hq.2 HPA.out.2.2
      refine ⟨_, rfl, ?_⟩
      have HBV5 := Lib.hid (HBV4.out.trans (hbs.mono HBV4.out.size))
      have HBE5 := Lib.hid (HBE4.out.trans (hbs.mono HBE4.out.size))
      have HSV5 := Lib.hid (blk_below HSV4.out hbs)
      have HZ5 := Lib.hid hbs.size
      clear hsl hq hbs hC48 hHeld
      refine hK.out _ _ HSV5.out (fun hHeld => ?_)
      clear hK K
      refine norm_ (a' := ?_) ?_ ?_
      rotate_left
      · show Act.put _ (some 49) _ = _
        go_frame
        rfl
      refine pure_ (i := 13) (N := some 50) (v := ?_) (a' := ?_) #[true, true, true, true, true, true, true, true, true, true, true, true, true, true, false, false, false, false, false, false, false, false, false] rfl rfl (by kernel_rfl) (fun _ _ _ h => h) (Or.inl ⟨by rfl, ?_⟩) ?_ ?_
      rotate_left; (intro w'; go_simp; with_reducible rfl)
      rotate_left; (go_frame; rfl)
      refine pure_ (i := 14) (N := some 51) (v := ?_) (a' := ?_) #[true, true, true, true, true, true, true, true, true, true, true, true, true, true, true, false, false, false, false, false, false, false, false] rfl rfl (by kernel_rfl) (fun _ _ _ h => h) (Or.inl ⟨by rfl, ?_⟩) ?_ ?_
      rotate_left; (intro w'; go_simp; with_reducible rfl)
      rotate_left; (go_frame; rfl)
      refine pure_ (i := 15) (N := some 52) (v := ?_) (a' := ?_) #[true, true, true, true, true, true, true, true, true, true, true, true, true, true, true, true, false, false, false, false, false, false, false] rfl rfl (by kernel_rfl) (fun _ _ _ h => h) (Or.inl ⟨by rfl, ?_⟩) ?_ ?_
      rotate_left; (intro w'; go_simp; with_reducible rfl)
      rotate_left; (go_frame; rfl)
      refine pure_ (i := 18) (N := some 55) (v := ?_) (a' := ?_) #[true, true, true, true, true, true, true, true, true, true, true, true, true, true, true, true, false, false, true, false, false, false, false] rfl rfl (by kernel_rfl) (fun _ _ _ h => h) (Or.inl ⟨by rfl, ?_⟩) ?_ ?_
      rotate_left; (intro w'; go_simp; with_reducible rfl)
      rotate_left; (go_frame; rfl)
      refine take_ (i := 16) (N := some 53) (v := ?_) (a' := ?_) #[true, true, true, true, true, true, true, true, true, true, true, true, true, true, true, true, true, false, true, false, false, false, false] rfl rfl (by kernel_rfl) (fun _ _ _ h => h) (Or.inl ⟨by rfl, ?_⟩) hHeld ?_ ?_
      rotate_left
      · intro w' hS
        obtain ⟨p0, p1, p2, p3, p4, p5⟩ := cells6 hS
        go_simp
        with_reducible rfl
      rotate_left; (go_frame; rfl)
      refine one_ (i := 17) (N := some 54) #[true, true, true, true, true, true, true, true, true, true, true, true, true, true, true, true, true, true, true, false, false, false, false] rfl rfl (by kernel_rfl) (by decide) (fun K hK => ?_)
      refine value_ (w1 := V5.alloc (.cells #[.int .i64 x.f0, .int .i64 x.f1, .float .f64 x.f2, .string x.f3, .slice A4 x.f4.length c4, .slice A5 x.f5.length c5] 26)) (v := .slice (some ⟨V5.heap.size, 0, none⟩) 1 1) (by rfl) rfl ?_ ?_
      · go_simp
      obtain ⟨V6, hV⟩ : ∃ q, q = V5.alloc (.cells #[.int .i64 x.f0, .int .i64 x.f1, .float .f64 x.f2, .string x.f3, .slice A4 x.f4.length c4, .slice A5 x.f5.length c5] 26) := ⟨_, rfl⟩
      have hal : Below V5.heap.size V5 V6 := by rw [hV]; exact (Below.refl _ _).alloc (Nat.le_refl _) _
      have HBV6 := Lib.hid (HBV5.out.trans (hal.mono HBV5.out.size))
      have HBE6 := Lib.hid (HBE5.out.trans (hal.mono HBE5.out.size))
      have HSV6 := Lib.hid (blk_below HSV5.out hal)
      have HZ6 := Lib.hid (show V5.heap.size < V6.heap.size by rw [hV]; simp)
      have HO17 := Lib.hid (show (kd0 w).R 26 V6 w.heap.size (fun q => V0.heap.size ≤ q) (.slice (some ⟨V5.heap.size, 0, none⟩) 1 1) [x] from ⟨fun k hk => by have h2 : V5.heap.size = k := (by simpa [Value.ownBlock] using hk); subst h2; exact (by have := HZ1.out; have := HZ2.out; have := HZ3.out; have := HZ4.out; have := HZ5.out; have := HZ6.out; omega), by rw [hV]; exact OwnRow.lit (inner := [_, _, _, _, _, _]) V5 w.heap.size (reps_one HKX.out) HBV5.out.size (by simp)⟩)
      rw [← hV]
      clear hV hal hHeld
      refine hK.out _ _ HSV6.out (fun hHeld => ?_)
      clear hK K
      refine norm_ (a' := ?_) ?_ ?_
      rotate_left
      · show Act.put _ (some 54) _ = _
        go_frame
        rfl
      refine one_ (i := 19) (N := some 56) #[true, true, true, true, true, true, true, true, true, true, true, true, true, true, true, true, true, true, true, true, false, false, false] rfl rfl (by kernel_rfl) (by decide) (fun K hK => ?_)
      refine Kd.R_append_rows_step (kd0 w) (w0 := w) w.heap.size (by rfl) _ _ 24 26 (.agg #[(.int .i64 0), (.int .i64 0), (.float .f64 0), (.string ⟨#[]⟩), (.slice none 0 0), (.slice none 0 0)]) 88 rfl Try.underlying24 info_val rfl (Nat.succ_pos 5) (by decide) (.slice (some ⟨V5.heap.size, 0, none⟩) 1 1) [x] l A l.length c (fun q => V0.heap.size ≤ q) (fun _ => False) rfl rfl HO17.out (rows0 HA.out HBV6.out) (fun _ _ h => h) (fun _ h => h.elim) (fun q hq => Nat.le_trans (by have := HZ1.out; have := HZ2.out; have := HZ3.out; have := HZ4.out; have := HZ5.out; have := HZ6.out; omega) hq) HBV6.out HBV6.out.size (by have := HL.out; simp; omega) ?_
      intro v56 V7 ho hb8 hg8 hat8
      have HBV7 := Lib.hid hb8
      have HZ7 := Lib.hid hg8.size
      have HBE7 := Lib.hid (Below.grown HBE6.out hg8 (by have := HZ1.out; have := HZ2.out; have := HZ3.out; have := HZ4.out; have := HZ5.out; have := HZ6.out; omega) (fun q hq => HO17.out.1 q hq))
      have HSV7 := Lib.hid (blk_grown HSV6.out hg8 (fun h => by have h3 := HO17.out.1 _ h.symm; have := HZW.out; omega))
      have HO19 := Lib.hid ho
      clear ho hb8 hg8 hat8 hHeld
      refine hK.out _ _ HSV7.out (fun hHeld => ?_)
      clear hK K
      refine norm_ (a' := ?_) ?_ ?_
      rotate_left
      · show Act.put _ (some 56) _ = _
        go_frame
        rfl
      refine one_ (i := 20) (N := some 57) #[true, true, true, true, true, true, true, true, true, true, true, true, true, true, true, true, true, true, true, true, true, false, false] rfl rfl (by kernel_rfl) (by decide) (fun K hK => ?_)
      obtain ⟨A56, c56, hv56, le56, hC56⟩ := Kd.R_reads HO19.out
      subst hv56
      have hsl := sameList_all 8 lb ([x] ++ l) Ab cb A56 c56 V7 HPB.out.1 HPB.out.2.1 (Kd.C_below HCB0.out HBE7.out) leb (kd0_C hC56 HBV7.out) le56
      refine goes_ Try.func24 (by kernel_rfl) rfl #[.slice Ab lb.length cb, .slice A56 ([x] ++ l).length c56] (by rfl) rfl rfl (by (try simp only [List.map_toArray, List.map_cons, List.map_nil]); first | done | rfl) ?_
      refine hsl.mono ?_
      rintro e V8 ⟨rr, rfl, hq, hbs⟩
      obtain rfl : rr = true := hq.2 HPB.out.2.2
      refine ⟨_, rfl, ?_⟩
      have HBV8 := Lib.hid (HBV7.out.trans (hbs.mono HBV7.out.size))
      have HBE8 := Lib.hid (HBE7.out.trans (hbs.mono HBE7.out.size))
      have HSV8 := Lib.hid (blk_below HSV7.out hbs)
      have HZ8 := Lib.hid hbs.size
      clear hsl hq hbs hC56 hHeld
      refine hK.out _ _ HSV8.out (fun hHeld => ?_)
      clear hK K
      refine norm_ (a' := ?_) ?_ ?_
      rotate_left
      · show Act.put _ (some 57) _ = _
        go_frame
        rfl
      refine pure_ (i := 21) (N := some 58) (v := ?_) (a' := ?_) #[true, true, true, true, true, true, true, true, true, true, true, true, true, true, true, true, true, true, true, true, true, true, false] rfl rfl (by kernel_rfl) (fun _ _ _ h => h) (Or.inl ⟨by rfl, ?_⟩) ?_ ?_
      rotate_left; (intro w'; go_simp; with_reducible rfl)
      rotate_left; (go_frame; rfl)
      refine pure_ (i := 22) (N := some 4) (v := ?_) (a' := ?_) #[true, true, true, true, true, true, true, true, true, true, true, true, true, true, true, true, true, true, true, true, true, true, true] rfl rfl (by kernel_rfl) (fun _ _ _ h => h) (Or.inl ⟨by rfl, ?_⟩) ?_ ?_
      rotate_left; (intro w'; go_simp; with_reducible rfl)
      rotate_left; (go_frame; rfl)
      refine done_ (by kernel_rfl) ?_
      go_wp2
      go_ret
      exact ⟨rfl, HBV8.out⟩
  · refine value_ (w1 := V0.alloc (.cells #[.int .i64 x.f0, .int .i64 x.f1, .float .f64 x.f2, .string x.f3, .slice A4 x.f4.length c4, .slice A5 x.f5.length c5] 26)) (v := .slice (some ⟨V0.heap.size, 0, none⟩) 1 1) (by rfl) rfl ?_ ?_
    · go_simp
    obtain ⟨V1, hV⟩ : ∃ q, q = V0.alloc (.cells #[.int .i64 x.f0, .int .i64 x.f1, .float .f64 x.f2, .string x.f3, .slice A4 x.f4.length c4, .slice A5 x.f5.length c5] 26) := ⟨_, rfl⟩
    have hal : Below V0.heap.size V0 V1 := by rw [hV]; exact (Below.refl _ _).alloc (Nat.le_refl _) _
    have HBV1 := Lib.hid (HBV0.out.trans (hal.mono HBV0.out.size))
    have HBE1 := Lib.hid (HBE0.out.trans (hal.mono HBE0.out.size))
    have HSV1 := Lib.hid (blk_below HSV0.out hal)
    have HZ1 := Lib.hid (show V0.heap.size < V1.heap.size by rw [hV]; simp)
    have HX10 := Lib.hid (show ReadsRow (k26.K w) 6 V1 (some ⟨V0.heap.size, 0, none⟩) 1 [x] by rw [hV]; exact one_reads V0 _ HKX.out)
    rw [← hV]
    clear hV hal hHeld
    refine hK.out _ _ HSV1.out (fun hHeld => ?_)
    clear hK K
    refine norm_ (a' := ?_) ?_ ?_
    rotate_left
    · show Act.put _ (some 47) _ = _
      go_frame
      rfl
    refine one_ (i := 6) (N := some 43) #[true, true, true, true, true, true, true, true, false, true, true, false, false, false, false, false, false, false, false, false, false, false, false] rfl rfl (by kernel_rfl) (by decide) (fun K hK => ?_)
    refine value_ (w1 := V1.alloc (.cells #[] 26)) (v := .slice (some ⟨V1.heap.size, 0, none⟩) 0 0) (by rfl) rfl ?_ ?_
    · go_simp
    obtain ⟨V2, hV⟩ : ∃ q, q = V1.alloc (.cells #[] 26) := ⟨_, rfl⟩
    have hal : Below V1.heap.size V1 V2 := by rw [hV]; exact (Below.refl _ _).alloc (Nat.le_refl _) _
    have HBV2 := Lib.hid (HBV1.out.trans (hal.mono HBV1.out.size))
    have HBE2 := Lib.hid (HBE1.out.trans (hal.mono HBE1.out.size))
    have HSV2 := Lib.hid (blk_below HSV1.out hal)
    have HZ2 := Lib.hid (show V1.heap.size < V2.heap.size by rw [hV]; simp)
    have HX10 := Lib.hid (ReadsRow.imp_ HX10.out hal (fun _ _ hp => hp))
    have HO6 := Lib.hid (show (kd0 w).R 26 V2 w.heap.size (fun q => V0.heap.size ≤ q) (.slice (some ⟨V1.heap.size, 0, none⟩) 0 0) [] from ⟨fun k hk => by have h2 : V1.heap.size = k := (by simpa [Value.ownBlock] using hk); subst h2; exact (by have := HZ1.out; have := HZ2.out; omega), by rw [hV]; exact OwnRow.lit (inner := []) V1 w.heap.size (Reps.none _ _) HBV1.out.size (by decide)⟩)
    rw [← hV]
    clear hV hal hHeld
    refine hK.out _ _ HSV2.out (fun hHeld => ?_)
    clear hK K
    refine norm_ (a' := ?_) ?_ ?_
    rotate_left
    · show Act.put _ (some 43) _ = _
      go_frame
      rfl
    refine one_ (i := 8) (N := some 45) #[true, true, true, true, true, true, true, true, true, true, true, false, false, false, false, false, false, false, false, false, false, false, false] rfl rfl (by kernel_rfl) (by decide) (fun K hK => ?_)
    refine Kd.R_append_rows_step (kd0 w) (w0 := w) w.heap.size (by rfl) _ _ 24 26 (.agg #[(.int .i64 0), (.int .i64 0), (.float .f64 0), (.string ⟨#[]⟩), (.slice none 0 0), (.slice none 0 0)]) 88 rfl Try.underlying24 info_val rfl (Nat.succ_pos 5) (by decide) (.slice (some ⟨V1.heap.size, 0, none⟩) 0 0) [] l A l.length c (fun q => V0.heap.size ≤ q) (fun _ => False) rfl rfl HO6.out (rows0 HA.out HBV2.out) (fun _ _ h => h) (fun _ h => h.elim) (fun q hq => Nat.le_trans (by have := HZ1.out; have := HZ2.out; omega) hq) HBV2.out HBV2.out.size (by have := HL.out; simp; omega) ?_
    intro v45 V3 ho hb8 hg8 hat8
    have HBV3 := Lib.hid hb8
    have HZ3 := Lib.hid hg8.size
    have HBE3 := Lib.hid (Below.grown HBE2.out hg8 (by have := HZ1.out; have := HZ2.out; omega) (fun q hq => HO6.out.1 q hq))
    have HSV3 := Lib.hid (blk_grown HSV2.out hg8 (fun h => by have h3 := HO6.out.1 _ h.symm; have := HZW.out; omega))
    rw [List.nil_append] at ho
    have HX10 := Lib.hid (rows_grown HX10.out hg8 (show V0.heap.size < V2.heap.size by have := HZ1.out; have := HZ2.out; omega) (fun h => by have h2 := (show V0.heap.size = V1.heap.size by simpa [Value.ownBlock] using h); have := HZ1.out; have := HZ1.out; omega))
    have HO8 := Lib.hid ho
    clear ho hb8 hg8 hat8 hHeld
    refine hK.out _ _ HSV3.out (fun hHeld => ?_)
    clear hK K
    refine norm_ (a' := ?_) ?_ ?_
    rotate_left
    · show Act.put _ (some 45) _ = _
      go_frame
      rfl
    refine one_ (i := 11) (N := some 48) #[true, true, true, true, true, true, true, true, true, true, true, true, false, false, false, false, false, false, false, false, false, false, false] rfl rfl (by kernel_rfl) (by decide) (fun K hK => ?_)
    refine Kd.R_append_rows_step (kd0 w) (w0 := w) w.heap.size (by rfl) _ _ 24 26 (.agg #[(.int .i64 0), (.int .i64 0), (.float .f64 0), (.string ⟨#[]⟩), (.slice none 0 0), (.slice none 0 0)]) 88 rfl Try.underlying24 info_val rfl (Nat.succ_pos 5) (by decide) (v45) l [x] (some ⟨V0.heap.size, 0, none⟩) 1 1 (fun q => V0.heap.size ≤ q) (fun _ => False) rfl rfl HO8.out HX10.out (fun _ _ h => h) (fun _ h => h.elim) (fun q hq => Nat.le_trans (by have := HZ1.out; have := HZ2.out; have := HZ3.out; omega) hq) HBV3.out HBV3.out.size (by have := HL.out; simp; omega) ?_
    intro v48 V4 ho hb8 hg8 hat8
    have HBV4 := Lib.hid hb8
    have HZ4 := Lib.hid hg8.size
    have HBE4 := Lib.hid (Below.grown HBE3.out hg8 (by have := HZ1.out; have := HZ2.out; have := HZ3.out; omega) (fun q hq => HO8.out.1 q hq))
    have HSV4 := Lib.hid (blk_grown HSV3.out hg8 (fun h => by have h3 := HO8.out.1 _ h.symm; have := HZW.out; omega))
    have HO11 := Lib.hid ho
    clear ho hb8 hg8 hat8 hHeld
    refine hK.out _ _ HSV4.out (fun hHeld => ?_)
    clear hK K
    refine norm_ (a' := ?_) ?_ ?_
    rotate_left
    · show Act.put _ (some 48) _ = _
      go_frame
      rfl
    refine one_ (i := 12) (N := some 49) #[true, true, true, true, true, true, true, true, true, true, true, true, true, false, false, false, false, false, false, false, false, false, false] rfl rfl (by kernel_rfl) (by decide) (fun K hK => ?_)
    obtain ⟨A48, c48, hv48, le48, hC48⟩ := Kd.R_reads HO11.out
    subst hv48
    have hsl := sameList_all 8 la (l ++ [x]) Aa ca A48 c48 V4 HPA.out.1 HPA.out.2.1 (Kd.C_below HCA0.out HBE4.out) lea (kd0_C hC48 HBV4.out) le48
    refine goes_ Try.func24 (by kernel_rfl) rfl #[.slice Aa la.length ca, .slice A48 (l ++ [x]).length c48] (by rfl) rfl rfl (by (try simp only [List.map_toArray, List.map_cons, List.map_nil]); first | done | rfl) ?_
    refine hsl.mono ?_
    rintro e V5 ⟨rr, rfl, hq, hbs⟩
    obtain rfl : rr = true := hq.2 HPA.out.2.2
    refine ⟨_, rfl, ?_⟩
    have HBV5 := Lib.hid (HBV4.out.trans (hbs.mono HBV4.out.size))
    have HBE5 := Lib.hid (HBE4.out.trans (hbs.mono HBE4.out.size))
    have HSV5 := Lib.hid (blk_below HSV4.out hbs)
    have HZ5 := Lib.hid hbs.size
    clear hsl hq hbs hC48 hHeld
    refine hK.out _ _ HSV5.out (fun hHeld => ?_)
    clear hK K
    refine norm_ (a' := ?_) ?_ ?_
    rotate_left
    · show Act.put _ (some 49) _ = _
      go_frame
      rfl
    refine pure_ (i := 13) (N := some 50) (v := ?_) (a' := ?_) #[true, true, true, true, true, true, true, true, true, true, true, true, true, true, false, false, false, false, false, false, false, false, false] rfl rfl (by kernel_rfl) (fun _ _ _ h => h) (Or.inl ⟨by rfl, ?_⟩) ?_ ?_
    rotate_left; (intro w'; go_simp; with_reducible rfl)
    rotate_left; (go_frame; rfl)
    refine pure_ (i := 14) (N := some 51) (v := ?_) (a' := ?_) #[true, true, true, true, true, true, true, true, true, true, true, true, true, true, true, false, false, false, false, false, false, false, false] rfl rfl (by kernel_rfl) (fun _ _ _ h => h) (Or.inl ⟨by rfl, ?_⟩) ?_ ?_
    rotate_left; (intro w'; go_simp; with_reducible rfl)
    rotate_left; (go_frame; rfl)
    refine pure_ (i := 15) (N := some 52) (v := ?_) (a' := ?_) #[true, true, true, true, true, true, true, true, true, true, true, true, true, true, true, true, false, false, false, false, false, false, false] rfl rfl (by kernel_rfl) (fun _ _ _ h => h) (Or.inl ⟨by rfl, ?_⟩) ?_ ?_
    rotate_left; (intro w'; go_simp; with_reducible rfl)
    rotate_left; (go_frame; rfl)
    refine pure_ (i := 18) (N := some 55) (v := ?_) (a' := ?_) #[true, true, true, true, true, true, true, true, true, true, true, true, true, true, true, true, false, false, true, false, false, false, false] rfl rfl (by kernel_rfl) (fun _ _ _ h => h) (Or.inl ⟨by rfl, ?_⟩) ?_ ?_
    rotate_left; (intro w'; go_simp; with_reducible rfl)
    rotate_left; (go_frame; rfl)
    refine take_ (i := 16) (N := some 53) (v := ?_) (a' := ?_) #[true, true, true, true, true, true, true, true, true, true, true, true, true, true, true, true, true, false, true, false, false, false, false] rfl rfl (by kernel_rfl) (fun _ _ _ h => h) (Or.inl ⟨by rfl, ?_⟩) hHeld ?_ ?_
    rotate_left
    · intro w' hS
      obtain ⟨p0, p1, p2, p3, p4, p5⟩ := cells6 hS
      go_simp
      with_reducible rfl
    rotate_left; (go_frame; rfl)
    refine one_ (i := 17) (N := some 54) #[true, true, true, true, true, true, true, true, true, true, true, true, true, true, true, true, true, true, true, false, false, false, false] rfl rfl (by kernel_rfl) (by decide) (fun K hK => ?_)
    refine value_ (w1 := V5.alloc (.cells #[.int .i64 x.f0, .int .i64 x.f1, .float .f64 x.f2, .string x.f3, .slice A4 x.f4.length c4, .slice A5 x.f5.length c5] 26)) (v := .slice (some ⟨V5.heap.size, 0, none⟩) 1 1) (by rfl) rfl ?_ ?_
    · go_simp
    obtain ⟨V6, hV⟩ : ∃ q, q = V5.alloc (.cells #[.int .i64 x.f0, .int .i64 x.f1, .float .f64 x.f2, .string x.f3, .slice A4 x.f4.length c4, .slice A5 x.f5.length c5] 26) := ⟨_, rfl⟩
    have hal : Below V5.heap.size V5 V6 := by rw [hV]; exact (Below.refl _ _).alloc (Nat.le_refl _) _
    have HBV6 := Lib.hid (HBV5.out.trans (hal.mono HBV5.out.size))
    have HBE6 := Lib.hid (HBE5.out.trans (hal.mono HBE5.out.size))
    have HSV6 := Lib.hid (blk_below HSV5.out hal)
    have HZ6 := Lib.hid (show V5.heap.size < V6.heap.size by rw [hV]; simp)
    have HO17 := Lib.hid (show (kd0 w).R 26 V6 w.heap.size (fun q => V0.heap.size ≤ q) (.slice (some ⟨V5.heap.size, 0, none⟩) 1 1) [x] from ⟨fun k hk => by have h2 : V5.heap.size = k := (by simpa [Value.ownBlock] using hk); subst h2; exact (by have := HZ1.out; have := HZ2.out; have := HZ3.out; have := HZ4.out; have := HZ5.out; have := HZ6.out; omega), by rw [hV]; exact OwnRow.lit (inner := [_, _, _, _, _, _]) V5 w.heap.size (reps_one HKX.out) HBV5.out.size (by simp)⟩)
    rw [← hV]
    clear hV hal hHeld
    refine hK.out _ _ HSV6.out (fun hHeld => ?_)
    clear hK K
    refine norm_ (a' := ?_) ?_ ?_
    rotate_left
    · show Act.put _ (some 54) _ = _
      go_frame
      rfl
    refine one_ (i := 19) (N := some 56) #[true, true, true, true, true, true, true, true, true, true, true, true, true, true, true, true, true, true, true, true, false, false, false] rfl rfl (by kernel_rfl) (by decide) (fun K hK => ?_)
    refine Kd.R_append_rows_step (kd0 w) (w0 := w) w.heap.size (by rfl) _ _ 24 26 (.agg #[(.int .i64 0), (.int .i64 0), (.float .f64 0), (.string ⟨#[]⟩), (.slice none 0 0), (.slice none 0 0)]) 88 rfl Try.underlying24 info_val rfl (Nat.succ_pos 5) (by decide) (.slice (some ⟨V5.heap.size, 0, none⟩) 1 1) [x] l A l.length c (fun q => V0.heap.size ≤ q) (fun _ => False) rfl rfl HO17.out (rows0 HA.out HBV6.out) (fun _ _ h => h) (fun _ h => h.elim) (fun q hq => Nat.le_trans (by have := HZ1.out; have := HZ2.out; have := HZ3.out; have := HZ4.out; have := HZ5.out; have := HZ6.out; omega) hq) HBV6.out HBV6.out.size (by have := HL.out; simp; omega) ?_
    intro v56 V7 ho hb8 hg8 hat8
    have HBV7 := Lib.hid hb8
    have HZ7 := Lib.hid hg8.size
    have HBE7 := Lib.hid (Below.grown HBE6.out hg8 (by have := HZ1.out; have := HZ2.out; have := HZ3.out; have := HZ4.out; have := HZ5.out; have := HZ6.out; omega) (fun q hq => HO17.out.1 q hq))
    have HSV7 := Lib.hid (blk_grown HSV6.out hg8 (fun h => by have h3 := HO17.out.1 _ h.symm; have := HZW.out; omega))
    have HO19 := Lib.hid ho
    clear ho hb8 hg8 hat8 hHeld
    refine hK.out _ _ HSV7.out (fun hHeld => ?_)
    clear hK K
    refine norm_ (a' := ?_) ?_ ?_
    rotate_left
    · show Act.put _ (some 56) _ = _
      go_frame
      rfl
    refine one_ (i := 20) (N := some 57) #[true, true, true, true, true, true, true, true, true, true, true, true, true, true, true, true, true, true, true, true, true, false, false] rfl rfl (by kernel_rfl) (by decide) (fun K hK => ?_)
    obtain ⟨A56, c56, hv56, le56, hC56⟩ := Kd.R_reads HO19.out
    subst hv56
    have hsl := sameList_all 8 lb ([x] ++ l) Ab cb A56 c56 V7 HPB.out.1 HPB.out.2.1 (Kd.C_below HCB0.out HBE7.out) leb (kd0_C hC56 HBV7.out) le56
    refine goes_ Try.func24 (by kernel_rfl) rfl #[.slice Ab lb.length cb, .slice A56 ([x] ++ l).length c56] (by rfl) rfl rfl (by (try simp only [List.map_toArray, List.map_cons, List.map_nil]); first | done | rfl) ?_
    refine hsl.mono ?_
    rintro e V8 ⟨rr, rfl, hq, hbs⟩
    obtain rfl : rr = true := hq.2 HPB.out.2.2
    refine ⟨_, rfl, ?_⟩
    have HBV8 := Lib.hid (HBV7.out.trans (hbs.mono HBV7.out.size))
    have HBE8 := Lib.hid (HBE7.out.trans (hbs.mono HBE7.out.size))
    have HSV8 := Lib.hid (blk_below HSV7.out hbs)
    have HZ8 := Lib.hid hbs.size
    clear hsl hq hbs hC56 hHeld
    refine hK.out _ _ HSV8.out (fun hHeld => ?_)
    clear hK K
    refine norm_ (a' := ?_) ?_ ?_
    rotate_left
    · show Act.put _ (some 57) _ = _
      go_frame
      rfl
    refine pure_ (i := 21) (N := some 58) (v := ?_) (a' := ?_) #[true, true, true, true, true, true, true, true, true, true, true, true, true, true, true, true, true, true, true, true, true, true, false] rfl rfl (by kernel_rfl) (fun _ _ _ h => h) (Or.inl ⟨by rfl, ?_⟩) ?_ ?_
    rotate_left; (intro w'; go_simp; with_reducible rfl)
    rotate_left; (go_frame; rfl)
    refine pure_ (i := 22) (N := some 4) (v := ?_) (a' := ?_) #[true, true, true, true, true, true, true, true, true, true, true, true, true, true, true, true, true, true, true, true, true, true, true] rfl rfl (by kernel_rfl) (fun _ _ _ h => h) (Or.inl ⟨by rfl, ?_⟩) ?_ ?_
    rotate_left; (intro w'; go_simp; with_reducible rfl)
    rotate_left; (go_frame; rfl)
    refine done_ (by kernel_rfl) ?_
    go_wp2
    go_ret
    exact ⟨rfl, HBV8.out⟩
end Go.Proofs.Ytlefdkemgfjieaa.P
