/- (sort.StringSlice).Sort, sprig.sortAlpha, SortAlpha, impl.SortAlpha, spec.SameTexts on equal rows. -/
import Derived.Test.YtgjcejgcljjdhaaGreatDoorBS1
import Derived.BigQuiet
set_option linter.unusedVariables false
set_option linter.unusedSimpArgs false
namespace Go.Proofs.YtgjcejgcljjdhaaGreatDoor.P
open Go.RowKit Go.Proofs.YtgjcejgcljjdhaaGreatDoorW.PrintWords Go.Proofs.YtgjcejgcljjdhaaGreatDoorW.PrintLast Go.Proofs.YtgjcejgcljjdhaaGreatDoorW.PrintMore

/-- ys is xs, sorted. -/
def IsSort (xs ys : List ByteArray) : Prop := ys.Perm xs ∧ ys.Pairwise leB
theorem leB_antisymm {a b : ByteArray} (h1 : leB a b) (h2 : leB b a) : a = b := by
  have := bytesLe_not a.toList b.toList
  have e1 : Op.bytesLess b.toList a.toList = false := h1
  have e2 : Op.bytesLess a.toList b.toList = false := h2
  rw [e1, e2] at this
  have e3 : a.toList = b.toList := by simpa using this
  exact ba_ext (by rw [← ByteArray.toList_eq, ← ByteArray.toList_eq]; exact e3)
theorem sort_unique {xs ys zs : List ByteArray} (h1 : IsSort xs ys) (h2 : IsSort xs zs) : ys = zs :=
  List.Perm.eq_of_pairwise (fun a b _ _ hab hba => leB_antisymm hab hba) h1.2 h2.2 (h1.1.trans h2.1.symm)
theorem zzList_call (u : Value) (w : World) : Calls Tryz.prog 45 #[.iface 42 u] w fun e w' => e = .returned (.tuple #[u, .bool true]) ∧ Below w.heap.size w w' := by
  have ta0 : ∀ (v : Value) (W : World), (Instr.typeAssert (.iface 42 v) 20 42 true).run Tryz.prog W = .ok (.tuple #[v, .bool true]) W := fun v W => by kernel_rfl
  go_enter Tryz.func45, Tryz.ntmps45
  go_wp2
  go_ret2
  exact ⟨rfl, Below.refl _ _⟩
set_option maxHeartbeats 3200000 in
set_option maxRecDepth 100000 in
theorem ssort_call {B : Nat} {w0 w : World} {v : Value} {xs : List ByteArray} (hR : Kd.string.R 9 w B (fun _ => True) v xs) (hl : xs.length ≤ 1000) (hB : Below B w0 w) (hS : B ≤ w.heap.size) :
    Calls Tryz.prog 46 #[v] w fun e w' => e = .returned (.tuple #[]) ∧ ∃ ys, Kd.string.R 9 w' B (fun _ => True) v ys ∧ IsSort xs ys ∧ Below B w0 w' ∧ B ≤ w'.heap.size := by
  have HC := Lib.hid (ssort_iface hR hl)
  have HB := Lib.hid hB
  have HS := Lib.hid hS
  clear hR hB hS hl
  go_enter Tryz.func46, Tryz.ntmps46
  go_wp2_with fail
  refine HC.out.mono ?_
  rintro e w1 ⟨rfl, ys, h1, h2, h3, row, hg, hrow⟩
  have HF := Lib.hid (show Kd.string.R 9 w1 B (fun _ => True) v ys ∧ IsSort xs ys ∧ Below B w0 w1 ∧ B ≤ w1.heap.size from ⟨h1, ⟨h2, h3⟩, Below.grown HB.out hg HS.out hrow, Nat.le_trans HS.out hg.size⟩)
  clear h1 h2 h3 hg hrow HC HB HS
  go_wp2
  refine bodyPost_end (results_none rfl _ _ _) rfl ?_
  exact ⟨rfl, ys, HF.out⟩
set_option maxHeartbeats 3200000 in
set_option maxRecDepth 100000 in
theorem sprigsortAlpha (l : List S36) (A : Option Addr) (c : Nat) (w : World) (hs : ∀ x ∈ l, simpV x = true) (hl : l.length ≤ 1000) (hc : kV.C w A l.length l) (hT : TabsW w) :
    Calls Tryz.prog 35 #[.iface 42 (.slice A l.length c)] w fun e w' => ∃ u ys, e = .returned u ∧ Kd.string.R 9 w' w.heap.size (fun _ => True) u ys ∧ IsSort ((l.filter fullV).map txtV) ys ∧ Below w.heap.size w w' := by
  have HZ := Lib.hid (zzList_call (.slice A l.length c) w)
  have HC := Lib.hid (fun (W : World) (hb : Below w.heap.size w W) => strslice_call l A c W hs hl (Kd.C_below hc hb) (hT.below hb))
  have HML := Lib.hid (show ((l.filter fullV).map txtV).length ≤ 1000 by rw [List.length_map]; exact Nat.le_trans (List.length_filter_le _ _) hl)
  clear hs hl hc hT
  obtain ⟨xs, hxs⟩ : ∃ xs, xs = (l.filter fullV).map txtV := ⟨_, rfl⟩
  rw [← hxs] at HC HML ⊢
  clear hxs
  generalize l.length = n at *
  go_enter Tryz.func35, Tryz.ntmps35
  go_wp2_with fail
  refine HZ.out.mono ?_
  rintro e w1 ⟨rfl, hb1⟩
  have HC1 := Lib.hid (HC.out w1 hb1)
  have HB1 := Lib.hid hb1
  clear hb1 HC HZ
  go_wp2_with fail
  refine HC1.out.mono ?_
  rintro e w2 ⟨u, rfl, hr2, hb2⟩
  have HSS := Lib.hid (ssort_call (w0 := w) (Kd.R_lower hr2 HB1.out.size) HML.out (HB1.out.trans (hb2.mono HB1.out.size)) (Nat.le_trans HB1.out.size hb2.size))
  clear hr2 hb2 HC1 HB1
  go_wp2_with fail
  refine HSS.out.mono ?_
  rintro e w3 ⟨rfl, ys, h1, h2, h3, h4⟩
  have HF := Lib.hid (show Kd.string.R 9 w3 w.heap.size (fun _ => True) u ys ∧ IsSort xs ys ∧ Below w.heap.size w w3 from ⟨h1, h2, h3⟩)
  clear h1 h2 h3 h4 HSS
  go_wp2
  go_ret
  exact ⟨u, ys, rfl, HF.out⟩
set_option maxHeartbeats 3200000 in
set_option maxRecDepth 100000 in
theorem sprigSortAlpha (l : List S36) (A : Option Addr) (c : Nat) (w : World) (hs : ∀ x ∈ l, simpV x = true) (hl : l.length ≤ 1000) (hc : kV.C w A l.length l) (hT : TabsW w) :
    Calls Tryz.prog 25 #[.iface 42 (.slice A l.length c)] w fun e w' => ∃ u ys, e = .returned u ∧ Kd.string.R 9 w' w.heap.size (fun _ => True) u ys ∧ IsSort ((l.filter fullV).map txtV) ys ∧ Below w.heap.size w w' := by
  have HC := Lib.hid (sprigsortAlpha l A c w hs hl hc hT)
  clear hs hl hc hT
  go_enter Tryz.func25, Tryz.ntmps25
  go_wp2_with fail
  refine HC.out.mono ?_
  rintro e w1 ⟨u, ys, rfl, hr1, hb1⟩
  have HR1 := Lib.hid hr1
  have HB1 := Lib.hid hb1
  clear hb1 hr1 HC
  go_wp2
  go_ret
  exact ⟨u, ys, rfl, HR1.out, HB1.out⟩
set_option maxHeartbeats 3200000 in
set_option maxRecDepth 100000 in
theorem implSortAlpha (l : List S36) (A : Option Addr) (c : Nat) (w : World) (hs : ∀ x ∈ l, simpV x = true) (hl : l.length ≤ 1000) (hc : k36.C w A l.length l) (hT : TabsW w) :
    Calls Tryz.prog 14 #[.slice A l.length c] w fun e w' => ∃ u ys, e = .returned u ∧ Kd.string.R 9 w' w.heap.size (fun _ => True) u ys ∧ IsSort ((l.filter fullV).map txtV) ys ∧ Below w.heap.size w w' := by
  have HG := Lib.hid (goList_simple l A c w hs hl hc)
  have HT := Lib.hid hT
  have HS := Lib.hid hs
  clear hs hc hT
  go_enter Tryz.func14, Tryz.ntmps14
  go_wp2_with fail
  refine HG.out.mono ?_
  rintro e w1 ⟨u, rfl, hr1, hb1⟩
  obtain ⟨A1, c1, rfl, hle1, hC1⟩ := Kd.R_reads hr1
  have HC := Lib.hid (sprigSortAlpha l A1 c1 w1 HS.out hl hC1 (HT.out.below hb1))
  have HB1 := Lib.hid hb1
  clear hr1 hC1 hb1 hle1 HG HT HS
  go_wp2_with fail
  refine HC.out.mono ?_
  rintro e w2 ⟨u2, ys, rfl, hr2, hs2, hb2⟩
  have HB2 := Lib.hid (HB1.out.trans (hb2.mono HB1.out.size))
  have HR2 := Lib.hid (Kd.R_lower hr2 HB1.out.size)
  have HS2 := Lib.hid hs2
  clear hb2 HC hr2 hs2
  go_wp2
  go_ret
  exact ⟨u2, ys, rfl, HR2.out, HS2.out, HB2.out⟩
set_option maxHeartbeats 3200000 in
set_option maxRecDepth 100000 in
theorem sameTexts_call (xs : List ByteArray) (A1 A2 : Option Addr) (c1 c2 : Nat) (w : World) (hl : xs.length ≤ 1000) (h1 : Kd.string.C w A1 xs.length xs) (h2 : Kd.string.C w A2 xs.length xs) :
    Calls Tryz.prog 13 #[.slice A1 xs.length c1, .slice A2 xs.length c2] w fun e w' => e = .returned (.bool true) ∧ Below w.heap.size w w' := by
  have H1 := Lib.hid h1
  have H2 := Lib.hid h2
  clear h1 h2
  obtain ⟨N, hNN⟩ : ∃ N, N = xs.length := ⟨_, rfl⟩
  have HN := Lib.hid hNN
  rw [← hNN] at hl ⊢
  clear hNN
  have HB := Lib.hid (Below.refl w.heap.size w)
  go_enter Tryz.func13, Tryz.ntmps13
  go_wp2
  go_loopw [5, 13] (fun y i wr => ∃ (k : Nat) (y' : Value), y' = y ∧ i = .int .i64 k ∧ k ≤ N ∧ Hid (Below w.heap.size w wr)) (fun _ i _ => N - (intOf i).toNat)
  case atStart => exact ⟨0, _, rfl, rfl, Nat.zero_le _, HB⟩
  case round =>
    clear HB
    obtain ⟨k, y0, rfl, rfl, hk, hB⟩ := hrel
    by_cases ck : k < N
    · obtain ⟨a1, rfl, q1⟩ := Kd.at_string (Kd.C_below H1.out hB.out) (k : Int) (by omega) (by rw [← HN.out]; omega)
      obtain ⟨a2, rfl, q2⟩ := Kd.at_string (Kd.C_below H2.out hB.out) (k : Int) (by omega) (by rw [← HN.out]; omega)
      simp only [Int.toNat_natCast] at q1 q2
      generalize rdOf ByteArray.empty xs (k : Int) = s at *
      have hb1 : (0 : Int) ≤ (k : Int) := by omega
      have hb2 : (k : Int) < (N : Int) := by omega
      go_wp2
      go_quiet (fail)
      go_wp2
      go_roundw
      case rel => exact ⟨k + 1, _, rfl, by go_num, by omega, Lib.hid (pw_below_drewN hB.out _)⟩
      case measure => simp [intOf]; omega
    · have hkn : k = N := by omega
      subst hkn
      go_wp2
      go_ret
      exact ⟨rfl, hB.out⟩
end Go.Proofs.YtgjcejgcljjdhaaGreatDoor.P
