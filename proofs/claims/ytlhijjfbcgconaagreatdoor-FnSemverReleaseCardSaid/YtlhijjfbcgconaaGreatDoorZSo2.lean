/- Versions: spec.Order, laws.version9. -/
import Derived.Test.YtlhijjfbcgconaaGreatDoorZSv
import Derived.Test.YtlhijjfbcgconaaGreatDoorZQA2
set_option linter.unusedVariables false
set_option linter.unusedSimpArgs false
namespace Go.Proofs.YtlhijjfbcgconaaGreatDoor.P
open Go.RowKit Go.Proofs.YtlhijjfbcgconaaGreatDoorW.PrintWords Go.Proofs.YtlhijjfbcgconaaGreatDoorW.PrintLast Go.Proofs.YtlhijjfbcgconaaGreatDoorW.PrintMore

def seg3 (a b : Int) : Int := if a < b then -1 else if a > b then 1 else 0
def ord3 (n1 n2 n3 m1 m2 m3 : Int) : Int := if seg3 n1 m1 ≠ 0 then seg3 n1 m1 else if seg3 n2 m2 ≠ 0 then seg3 n2 m2 else seg3 n3 m3
set_option maxHeartbeats 1600000 in
set_option maxRecDepth 100000 in
theorem alloc_below (w : World) (ob : Obj) : Below w.heap.size w (w.alloc ob) := (Below.refl _ _).alloc (Nat.le_refl _) _
theorem alloc2_new (w : World) (o1 : Obj) (cs : Array Value) (t : TypeId) : ((w.alloc o1).alloc (.cells cs t)).heap[w.heap.size + 1]? = some (.cells cs t (0, 0)) := by
  have h := heap_alloc_new (w.alloc o1) (.cells cs t)
  rw [show (w.alloc o1).heap.size = w.heap.size + 1 by simp] at h
  exact h
set_option maxHeartbeats 1600000 in
set_option maxRecDepth 100000 in
theorem order_call (n1 n2 n3 m1 m2 m3 : Int) (p1 q1 p2 q2 : ByteArray) (w : World) :
    Calls Tryz.prog 10 #[.agg #[.int .u64 n1, .int .u64 n2, .int .u64 n3, .string p1, .string q1], .agg #[.int .u64 m1, .int .u64 m2, .int .u64 m3, .string p2, .string q2]] w fun e w' => e = .returned (.int .i64 (ord3 n1 n2 n3 m1 m2 m3)) ∧ Below w.heap.size w w' := by
  have HB0 := Lib.hid (show Below w.heap.size w ((w.alloc (.cells #[.int .u64 n1, .int .u64 n2, .int .u64 n3, .string p1, .string q1] 24)).alloc (.cells #[.int .u64 m1, .int .u64 m2, .int .u64 m3, .string p2, .string q2] 24)) from ((Below.refl _ _).alloc (Nat.le_refl _) _).alloc (by simp) _)
  have HS0 := Lib.hid (show ((w.alloc (.cells #[.int .u64 n1, .int .u64 n2, .int .u64 n3, .string p1, .string q1] 24)).alloc (.cells #[.int .u64 m1, .int .u64 m2, .int .u64 m3, .string p2, .string q2] 24)).heap[w.heap.size]? = some (.cells #[.int .u64 n1, .int .u64 n2, .int .u64 n3, .string p1, .string q1] 24 (0, 0)) ∧ ((w.alloc (.cells #[.int .u64 n1, .int .u64 n2, .int .u64 n3, .string p1, .string q1] 24)).alloc (.cells #[.int .u64 m1, .int .u64 m2, .int .u64 m3, .string p2, .string q2] 24)).heap[w.heap.size + 1]? = some (.cells #[.int .u64 m1, .int .u64 m2, .int .u64 m3, .string p2, .string q2] 24 (0, 0)) from ⟨blk_below (heap_alloc_new w _) (alloc_below _ _), by have h := heap_alloc_new (w.alloc (.cells #[.int .u64 n1, .int .u64 n2, .int .u64 n3, .string p1, .string q1] 24)) (.cells #[.int .u64 m1, .int .u64 m2, .int .u64 m3, .string p2, .string q2] 24); rw [show (w.alloc (.cells #[.int .u64 n1, .int .u64 n2, .int .u64 n3, .string p1, .string q1] 24)).heap.size = w.heap.size + 1 by simp] at h; exact h⟩)
  go_enter Tryz.func10, Tryz.ntmps10
  go_upto_region 1 with fail
  generalize (w.alloc (.cells #[.int .u64 n1, .int .u64 n2, .int .u64 n3, .string p1, .string q1] 24)).alloc (.cells #[.int .u64 m1, .int .u64 m2, .int .u64 m3, .string p2, .string q2] 24) = v0 at *
  go_cut [5, 6] from 8 to 21 (fun a b wx => ∃ g h : Nat, a = .pointer (some ⟨g, 0, none⟩) ∧ b = .pointer (some ⟨h, 0, none⟩) ∧ wx.heap[g]? = some (.cells #[.int .u64 n1, .int .u64 n2, .int .u64 n3] 45 (0, 0)) ∧ wx.heap[h]? = some (.cells #[.int .u64 m1, .int .u64 m2, .int .u64 m3] 45 (0, 0)) ∧ Below w.heap.size w wx)
  case first =>
    refine start_ (n := 18) (ds := []) (S := fun w' => w'.heap[w.heap.size]? = some (.cells #[.int .u64 n1, .int .u64 n2, .int .u64 n3, .string p1, .string q1] 24 (0, 0)) ∧ w'.heap[w.heap.size + 1]? = some (.cells #[.int .u64 m1, .int .u64 m2, .int .u64 m3, .string p2, .string q2] 24 (0, 0))) #[false, false, false, false, false, false, false, false, false, false, false, false, false, false, false, false, false, false] (by kernel_rfl) rfl rfl (HS0.out) (fun hHeld => ?_)
    have HB1 := Lib.hid (show Below w.heap.size w v0.drew from HB0.out.drew)
    clear HB0
    generalize v0.drew = v1 at *
    refine pure_ (i := 0) (N := some 8) (v := ?_) (a' := ?_) #[true, false, false, false, false, false, false, false, false, false, false, false, false, false, false, false, false, false] rfl rfl (by kernel_rfl) (fun _ _ _ h => h) (Or.inl ⟨by rfl, ?_⟩) ?_ ?_
    rotate_left; (intro w'; go_simp; with_reducible rfl)
    rotate_left; (go_frame; rfl)
    refine pure_ (i := 2) (N := some 10) (v := ?_) (a' := ?_) #[true, false, true, false, false, false, false, false, false, false, false, false, false, false, false, false, false, false] rfl rfl (by kernel_rfl) (fun _ _ _ h => h) (Or.inl ⟨by rfl, ?_⟩) ?_ ?_
    rotate_left; (intro w'; go_simp; with_reducible rfl)
    rotate_left; (go_frame; rfl)
    refine pure_ (i := 4) (N := some 12) (v := ?_) (a' := ?_) #[true, false, true, false, true, false, false, false, false, false, false, false, false, false, false, false, false, false] rfl rfl (by kernel_rfl) (fun _ _ _ h => h) (Or.inl ⟨by rfl, ?_⟩) ?_ ?_
    rotate_left; (intro w'; go_simp; with_reducible rfl)
    rotate_left; (go_frame; rfl)
    refine pure_ (i := 7) (N := some 15) (v := ?_) (a' := ?_) #[true, false, true, false, true, false, false, true, false, false, false, false, false, false, false, false, false, false] rfl rfl (by kernel_rfl) (fun _ _ _ h => h) (Or.inl ⟨by rfl, ?_⟩) ?_ ?_
    rotate_left; (intro w'; go_simp; with_reducible rfl)
    rotate_left; (go_frame; rfl)
    refine pure_ (i := 9) (N := some 17) (v := ?_) (a' := ?_) #[true, false, true, false, true, false, false, true, false, true, false, false, false, false, false, false, false, false] rfl rfl (by kernel_rfl) (fun _ _ _ h => h) (Or.inl ⟨by rfl, ?_⟩) ?_ ?_
    rotate_left; (intro w'; go_simp; with_reducible rfl)
    rotate_left; (go_frame; rfl)
    refine pure_ (i := 11) (N := some 19) (v := ?_) (a' := ?_) #[true, false, true, false, true, false, false, true, false, true, false, true, false, false, false, false, false, false] rfl rfl (by kernel_rfl) (fun _ _ _ h => h) (Or.inl ⟨by rfl, ?_⟩) ?_ ?_
    rotate_left; (intro w'; go_simp; with_reducible rfl)
    rotate_left; (go_frame; rfl)
    refine take_ (i := 1) (N := some 9) (v := ?_) (a' := ?_) #[true, true, true, false, true, false, false, true, false, true, false, true, false, false, false, false, false, false] rfl rfl (by kernel_rfl) (fun _ _ _ h => h) (Or.inl ⟨by rfl, ?_⟩) hHeld ?_ ?_
    rotate_left
    · intro w' hS
      obtain ⟨ha, hb⟩ := hS
      have y0 := blk_cell ha 0
      have y1 := blk_cell ha 1
      have y2 := blk_cell ha 2
      have z0 := blk_cell hb 0
      have z1 := blk_cell hb 1
      have z2 := blk_cell hb 2
      simp only [List.getElem?_toArray, List.getElem?_cons_zero, List.getElem?_cons_succ] at y0 y1 y2 z0 z1 z2
      clear ha hb
      go_simp
      with_reducible rfl
    rotate_left; (go_frame; rfl)
    refine take_ (i := 3) (N := some 11) (v := ?_) (a' := ?_) #[true, true, true, true, true, false, false, true, false, true, false, true, false, false, false, false, false, false] rfl rfl (by kernel_rfl) (fun _ _ _ h => h) (Or.inl ⟨by rfl, ?_⟩) hHeld ?_ ?_
    rotate_left
    · intro w' hS
      obtain ⟨ha, hb⟩ := hS
      have y0 := blk_cell ha 0
      have y1 := blk_cell ha 1
      have y2 := blk_cell ha 2
      have z0 := blk_cell hb 0
      have z1 := blk_cell hb 1
      have z2 := blk_cell hb 2
      simp only [List.getElem?_toArray, List.getElem?_cons_zero, List.getElem?_cons_succ] at y0 y1 y2 z0 z1 z2
      clear ha hb
      go_simp
      with_reducible rfl
    rotate_left; (go_frame; rfl)
    refine take_ (i := 5) (N := some 13) (v := ?_) (a' := ?_) #[true, true, true, true, true, true, false, true, false, true, false, true, false, false, false, false, false, false] rfl rfl (by kernel_rfl) (fun _ _ _ h => h) (Or.inl ⟨by rfl, ?_⟩) hHeld ?_ ?_
    rotate_left
    · intro w' hS
      obtain ⟨ha, hb⟩ := hS
      have y0 := blk_cell ha 0
      have y1 := blk_cell ha 1
      have y2 := blk_cell ha 2
      have z0 := blk_cell hb 0
      have z1 := blk_cell hb 1
      have z2 := blk_cell hb 2
      simp only [List.getElem?_toArray, List.getElem?_cons_zero, List.getElem?_cons_succ] at y0 y1 y2 z0 z1 z2
      clear ha hb
      go_simp
      with_reducible rfl
    rotate_left; (go_frame; rfl)
    refine take_ (i := 8) (N := some 16) (v := ?_) (a' := ?_) #[true, true, true, true, true, true, false, true, true, true, false, true, false, false, false, false, false, false] rfl rfl (by kernel_rfl) (fun _ _ _ h => h) (Or.inl ⟨by rfl, ?_⟩) hHeld ?_ ?_
    rotate_left
    · intro w' hS
      obtain ⟨ha, hb⟩ := hS
      have y0 := blk_cell ha 0
      have y1 := blk_cell ha 1
      have y2 := blk_cell ha 2
      have z0 := blk_cell hb 0
      have z1 := blk_cell hb 1
      have z2 := blk_cell hb 2
      simp only [List.getElem?_toArray, List.getElem?_cons_zero, List.getElem?_cons_succ] at y0 y1 y2 z0 z1 z2
      clear ha hb
      go_simp
      with_reducible rfl
    rotate_left; (go_frame; rfl)
    refine take_ (i := 10) (N := some 18) (v := ?_) (a' := ?_) #[true, true, true, true, true, true, false, true, true, true, true, true, false, false, false, false, false, false] rfl rfl (by kernel_rfl) (fun _ _ _ h => h) (Or.inl ⟨by rfl, ?_⟩) hHeld ?_ ?_
    rotate_left
    · intro w' hS
      obtain ⟨ha, hb⟩ := hS
      have y0 := blk_cell ha 0
      have y1 := blk_cell ha 1
      have y2 := blk_cell ha 2
      have z0 := blk_cell hb 0
      have z1 := blk_cell hb 1
      have z2 := blk_cell hb 2
      simp only [List.getElem?_toArray, List.getElem?_cons_zero, List.getElem?_cons_succ] at y0 y1 y2 z0 z1 z2
      clear ha hb
      go_simp
      with_reducible rfl
    rotate_left; (go_frame; rfl)
    refine take_ (i := 12) (N := some 20) (v := ?_) (a' := ?_) #[true, true, true, true, true, true, false, true, true, true, true, true, true, false, false, false, false, false] rfl rfl (by kernel_rfl) (fun _ _ _ h => h) (Or.inl ⟨by rfl, ?_⟩) hHeld ?_ ?_
    rotate_left
    · intro w' hS
      obtain ⟨ha, hb⟩ := hS
      have y0 := blk_cell ha 0
      have y1 := blk_cell ha 1
      have y2 := blk_cell ha 2
      have z0 := blk_cell hb 0
      have z1 := blk_cell hb 1
      have z2 := blk_cell hb 2
      simp only [List.getElem?_toArray, List.getElem?_cons_zero, List.getElem?_cons_succ] at y0 y1 y2 z0 z1 z2
      clear ha hb
      go_simp
      with_reducible rfl
    rotate_left; (go_frame; rfl)
    refine pure_ (i := 6) (N := some 14) (v := ?_) (a' := ?_) #[true, true, true, true, true, true, true, true, true, true, true, true, true, false, false, false, false, false] rfl rfl (by kernel_rfl) (fun _ _ _ h => h) (Or.inl ⟨by rfl, ?_⟩) ?_ ?_
    rotate_left; (intro w'; go_simp; with_reducible rfl)
    rotate_left; (go_frame; rfl)
    refine pure_ (i := 13) (N := some 21) (v := ?_) (a' := ?_) #[true, true, true, true, true, true, true, true, true, true, true, true, true, true, false, false, false, false] rfl rfl (by kernel_rfl) (fun _ _ _ h => h) (Or.inl ⟨by rfl, ?_⟩) ?_ ?_
    rotate_left; (intro w'; go_simp; with_reducible rfl)
    rotate_left; (go_frame; rfl)
    have hHeld0 := Lib.hid hHeld
    refine two_ (i := 14) (j := 15) (Ni := some 5) (Nj := some 6) #[true, true, true, true, true, true, true, true, true, true, true, true, true, true, true, false, false, false] #[true, true, true, true, true, true, true, true, true, true, true, true, true, true, false, true, false, false] rfl rfl rfl rfl (by kernel_rfl) (by decide) (by decide) (fun K hK => ?_) (fun K hK => ?_)
    · refine value_ (w1 := (v1).alloc (.cells #[.int .u64 0, .int .u64 0, .int .u64 0] 45)) (v := .pointer (some ⟨(v1).heap.size, 0, none⟩)) (by rfl) rfl ?_ ?_
      · go_simp
      clear hHeld
      refine hK.out _ _ (⟨blk_below hHeld0.out.1 (alloc_below v1 _), blk_below hHeld0.out.2 (alloc_below v1 _)⟩) (fun hHeld => ?_)
      clear hK K
      refine norm_ (a' := ?_) ?_ ?_
      rotate_left
      · show Act.put _ (some 5) _ = _
        go_frame
        rfl
      refine one_ (i := 15) (N := some 6) #[true, true, true, true, true, true, true, true, true, true, true, true, true, true, true, true, false, false] rfl rfl (by kernel_rfl) (by decide) (fun K hK => ?_)
      refine value_ (w1 := (v1.alloc (.cells #[.int .u64 0, .int .u64 0, .int .u64 0] 45)).alloc (.cells #[.int .u64 0, .int .u64 0, .int .u64 0] 45)) (v := .pointer (some ⟨(v1.alloc (.cells #[.int .u64 0, .int .u64 0, .int .u64 0] 45)).heap.size, 0, none⟩)) (by rfl) rfl ?_ ?_
      · go_simp
      clear hHeld
      refine hK.out _ _ (⟨blk_below hHeld0.out.1 ((alloc_below v1 _).trans ((alloc_below _ _).mono (by simp))), blk_below hHeld0.out.2 ((alloc_below v1 _).trans ((alloc_below _ _).mono (by simp)))⟩) (fun hHeld => ?_)
      clear hK K
      refine norm_ (a' := ?_) ?_ ?_
      rotate_left
      · show Act.put _ (some 6) _ = _
        go_frame
        rfl
      refine one_ (i := 16) (N := none) #[true, true, true, true, true, true, true, true, true, true, true, true, true, true, true, true, true, false] rfl rfl (by kernel_rfl) (by decide) (fun K hK => ?_)
      refine skip_ (w1 := ?_) (by rfl) rfl ?_ ?_
      rotate_left
      · go_simp
        rfl
      clear hHeld
      refine hK.out _ _ (⟨blk_below hHeld0.out.1 ((alloc_below v1 _).trans ((alloc_below _ _).mono (by simp))), blk_below hHeld0.out.2 ((alloc_below v1 _).trans ((alloc_below _ _).mono (by simp)))⟩) (fun hHeld => ?_)
      clear hK K
      refine one_ (i := 17) (N := none) #[true, true, true, true, true, true, true, true, true, true, true, true, true, true, true, true, true, true] rfl rfl (by kernel_rfl) (by decide) (fun K hK => ?_)
      refine skip_ (w1 := ?_) (by rfl) rfl ?_ ?_
      rotate_left
      · go_simp
        rfl
      clear hHeld
      refine hK.out _ _ (⟨blk_below hHeld0.out.1 ((alloc_below v1 _).trans ((alloc_below _ _).mono (by simp))), blk_below hHeld0.out.2 ((alloc_below v1 _).trans ((alloc_below _ _).mono (by simp)))⟩) (fun hHeld => ?_)
      clear hK K
      refine done_ (by kernel_rfl) ?_
      have HF := Lib.hid (HB1.out.trans (((alloc_below v1 (.cells #[.int .u64 n1, .int .u64 n2, .int .u64 n3] 45)).trans ((alloc_below _ (.cells #[.int .u64 m1, .int .u64 m2, .int .u64 m3] 45)).mono (by simp))).mono HB1.out.size))
      go_wp2
      go_meet
      case rel => exact ⟨v1.heap.size, v1.heap.size + 1, rfl, by simp, blk_below (heap_alloc_new v1 _) (alloc_below _ _), alloc2_new _ _ _ _, HF.out⟩
    · refine value_ (w1 := (v1).alloc (.cells #[.int .u64 0, .int .u64 0, .int .u64 0] 45)) (v := .pointer (some ⟨(v1).heap.size, 0, none⟩)) (by rfl) rfl ?_ ?_
      · go_simp
      clear hHeld
      refine hK.out _ _ (⟨blk_below hHeld0.out.1 (alloc_below v1 _), blk_below hHeld0.out.2 (alloc_below v1 _)⟩) (fun hHeld => ?_)
      clear hK K
      refine norm_ (a' := ?_) ?_ ?_
      rotate_left
      · show Act.put _ (some 6) _ = _
        go_frame
        rfl
      refine one_ (i := 14) (N := some 5) #[true, true, true, true, true, true, true, true, true, true, true, true, true, true, true, true, false, false] rfl rfl (by kernel_rfl) (by decide) (fun K hK => ?_)
      refine value_ (w1 := (v1.alloc (.cells #[.int .u64 0, .int .u64 0, .int .u64 0] 45)).alloc (.cells #[.int .u64 0, .int .u64 0, .int .u64 0] 45)) (v := .pointer (some ⟨(v1.alloc (.cells #[.int .u64 0, .int .u64 0, .int .u64 0] 45)).heap.size, 0, none⟩)) (by rfl) rfl ?_ ?_
      · go_simp
      clear hHeld
      refine hK.out _ _ (⟨blk_below hHeld0.out.1 ((alloc_below v1 _).trans ((alloc_below _ _).mono (by simp))), blk_below hHeld0.out.2 ((alloc_below v1 _).trans ((alloc_below _ _).mono (by simp)))⟩) (fun hHeld => ?_)
      clear hK K
      refine norm_ (a' := ?_) ?_ ?_
      rotate_left
      · show Act.put _ (some 5) _ = _
        go_frame
        rfl
      refine one_ (i := 16) (N := none) #[true, true, true, true, true, true, true, true, true, true, true, true, true, true, true, true, true, false] rfl rfl (by kernel_rfl) (by decide) (fun K hK => ?_)
      refine skip_ (w1 := ?_) (by rfl) rfl ?_ ?_
      rotate_left
      · go_simp
        rfl
      clear hHeld
      refine hK.out _ _ (⟨blk_below hHeld0.out.1 ((alloc_below v1 _).trans ((alloc_below _ _).mono (by simp))), blk_below hHeld0.out.2 ((alloc_below v1 _).trans ((alloc_below _ _).mono (by simp)))⟩) (fun hHeld => ?_)
      clear hK K
      refine one_ (i := 17) (N := none) #[true, true, true, true, true, true, true, true, true, true, true, true, true, true, true, true, true, true] rfl rfl (by kernel_rfl) (by decide) (fun K hK => ?_)
      refine skip_ (w1 := ?_) (by rfl) rfl ?_ ?_
      rotate_left
      · go_simp
        rfl
      clear hHeld
      refine hK.out _ _ (⟨blk_below hHeld0.out.1 ((alloc_below v1 _).trans ((alloc_below _ _).mono (by simp))), blk_below hHeld0.out.2 ((alloc_below v1 _).trans ((alloc_below _ _).mono (by simp)))⟩) (fun hHeld => ?_)
      clear hK K
      refine done_ (by kernel_rfl) ?_
      have HF := Lib.hid (HB1.out.trans (((alloc_below v1 (.cells #[.int .u64 m1, .int .u64 m2, .int .u64 m3] 45)).trans ((alloc_below _ (.cells #[.int .u64 n1, .int .u64 n2, .int .u64 n3] 45)).mono (by simp))).mono HB1.out.size))
      go_wp2
      go_meet
      case rel => exact ⟨v1.heap.size + 1, v1.heap.size, by simp, rfl, alloc2_new _ _ _ _, blk_below (heap_alloc_new v1 _) (alloc_below _ _), HF.out⟩
  case rest =>
    obtain ⟨g, h, rfl, rfl, hg, hh, hb⟩ := hcut
    have HG := Lib.hid hg
    have HH := Lib.hid hh
    have HB := Lib.hid hb
    clear hg hh hb HB0 HS0
    go_wp2
    go_loopw [7] (fun i wr => ∃ k : Nat, i = .int .i64 k ∧ k ≤ 3 ∧ Hid ((0 < k → n1 = m1) ∧ (1 < k → n2 = m2) ∧ (2 < k → n3 = m3)) ∧ Hid (Below wc.heap.size wc wr)) (fun i _ => 3 - (intOf i).toNat)
    case atStart => exact ⟨0, rfl, by omega, Lib.hid ⟨fun h => by omega, fun h => by omega, fun h => by omega⟩, Lib.hid (Below.refl _ _)⟩
    case round =>
      obtain ⟨k, rfl, hk, HE, hW⟩ := hrel
      have hg := blk_below HG.out hW.out
      have hh := blk_below HH.out hW.out
      have HBR := Lib.hid (HB.out.trans (hW.out.mono HB.out.size))
      have hk4 : k = 0 ∨ k = 1 ∨ k = 2 ∨ k = 3 := by omega
      rcases hk4 with rfl | rfl | rfl | rfl
      · have e0 : n1 < m1 ∨ m1 < n1 ∨ n1 = m1 := by omega
        have y := blk_cell hg 0
        have z := blk_cell hh 0
        simp only [List.getElem?_toArray, List.getElem?_cons_zero, List.getElem?_cons_succ] at y z
        clear hg hh hk
        rcases e0 with e1 | e1 | e1
        · have HV := Lib.hid (show ord3 n1 n2 n3 m1 m2 m3 = -1 by
            unfold ord3 seg3
            simp [e1])
          have d1 : decide (n1 < m1) = true := decide_eq_true e1
          clear e1
          go_upto_region 5 with fail
          go_quiet (fail)
          have HBq := Lib.hid (pw_below_drewN HBR.out nq)
          generalize wr.drewN nq = wq at *
          go_wp2
          go_ret
          exact ⟨congrArg (fun z => Ending.returned (Value.int .i64 z)) HV.out.symm, HBq.out⟩
        · have HV := Lib.hid (show ord3 n1 n2 n3 m1 m2 m3 = 1 by
            have e2 : ¬ n1 < m1 := by omega
            unfold ord3 seg3
            simp [e1, e2])
          have d1 : decide (n1 < m1) = false := decide_eq_false (by omega)
          have d2 : decide (m1 < n1) = true := decide_eq_true e1
          clear e1
          go_upto_region 5 with fail
          go_quiet (fail)
          revert nq
          intro na
          go_upto_region 7 with fail
          go_quiet (fail)
          have HBq := Lib.hid (pw_below_drewN (pw_below_drewN HBR.out na) nq)
          go_wp2
          go_ret
          exact ⟨congrArg (fun z => Ending.returned (Value.int .i64 z)) HV.out.symm, HBq.out⟩
        · subst e1
          have d1 : decide (n1 < n1) = false := decide_eq_false (by omega)
          go_upto_region 5 with fail
          go_quiet (fail)
          revert nq
          intro na
          go_upto_region 7 with fail
          go_quiet (fail)
          have HWq := Lib.hid (pw_below_drewN hW.out (na + nq))
          go_wp2
          go_roundw
          case rel => exact ⟨1, rfl, by omega, Lib.hid (by refine ⟨fun _ => ?_, fun _ => ?_, fun _ => ?_⟩ <;> first | trivial | exact HE.out.1 (by omega) | exact HE.out.2.1 (by omega) | omega), HWq⟩
          case measure => simp [intOf]
      · have e0 : n2 < m2 ∨ m2 < n2 ∨ n2 = m2 := by omega
        have y := blk_cell hg 1
        have z := blk_cell hh 1
        simp only [List.getElem?_toArray, List.getElem?_cons_zero, List.getElem?_cons_succ] at y z
        clear hg hh hk
        rcases e0 with e1 | e1 | e1
        · have HV := Lib.hid (show ord3 n1 n2 n3 m1 m2 m3 = -1 by
            rw [HE.out.1 (by omega)]; unfold ord3 seg3
            simp [e1])
          have d1 : decide (n2 < m2) = true := decide_eq_true e1
          clear e1
          go_upto_region 5 with fail
          go_quiet (fail)
          have HBq := Lib.hid (pw_below_drewN HBR.out nq)
          generalize wr.drewN nq = wq at *
          go_wp2
          go_ret
          exact ⟨congrArg (fun z => Ending.returned (Value.int .i64 z)) HV.out.symm, HBq.out⟩
        · have HV := Lib.hid (show ord3 n1 n2 n3 m1 m2 m3 = 1 by
            have e2 : ¬ n2 < m2 := by omega
            rw [HE.out.1 (by omega)]; unfold ord3 seg3
            simp [e1, e2])
          have d1 : decide (n2 < m2) = false := decide_eq_false (by omega)
          have d2 : decide (m2 < n2) = true := decide_eq_true e1
          clear e1
          go_upto_region 5 with fail
          go_quiet (fail)
          revert nq
          intro na
          go_upto_region 7 with fail
          go_quiet (fail)
          have HBq := Lib.hid (pw_below_drewN (pw_below_drewN HBR.out na) nq)
          go_wp2
          go_ret
          exact ⟨congrArg (fun z => Ending.returned (Value.int .i64 z)) HV.out.symm, HBq.out⟩
        · subst e1
          have d1 : decide (n2 < n2) = false := decide_eq_false (by omega)
          go_upto_region 5 with fail
          go_quiet (fail)
          revert nq
          intro na
          go_upto_region 7 with fail
          go_quiet (fail)
          have HWq := Lib.hid (pw_below_drewN hW.out (na + nq))
          go_wp2
          go_roundw
          case rel => exact ⟨2, rfl, by omega, Lib.hid (by refine ⟨fun _ => ?_, fun _ => ?_, fun _ => ?_⟩ <;> first | trivial | exact HE.out.1 (by omega) | exact HE.out.2.1 (by omega) | omega), HWq⟩
          case measure => simp [intOf]
      · have e0 : n3 < m3 ∨ m3 < n3 ∨ n3 = m3 := by omega
        have y := blk_cell hg 2
        have z := blk_cell hh 2
        simp only [List.getElem?_toArray, List.getElem?_cons_zero, List.getElem?_cons_succ] at y z
        clear hg hh hk
        rcases e0 with e1 | e1 | e1
        · have HV := Lib.hid (show ord3 n1 n2 n3 m1 m2 m3 = -1 by
            rw [HE.out.1 (by omega)]; rw [HE.out.2.1 (by omega)]; unfold ord3 seg3
            simp [e1])
          have d1 : decide (n3 < m3) = true := decide_eq_true e1
          clear e1
          go_upto_region 5 with fail
          go_quiet (fail)
          have HBq := Lib.hid (pw_below_drewN HBR.out nq)
          generalize wr.drewN nq = wq at *
          go_wp2
          go_ret
          exact ⟨congrArg (fun z => Ending.returned (Value.int .i64 z)) HV.out.symm, HBq.out⟩
        · have HV := Lib.hid (show ord3 n1 n2 n3 m1 m2 m3 = 1 by
            have e2 : ¬ n3 < m3 := by omega
            rw [HE.out.1 (by omega)]; rw [HE.out.2.1 (by omega)]; unfold ord3 seg3
            simp [e1, e2])
          have d1 : decide (n3 < m3) = false := decide_eq_false (by omega)
          have d2 : decide (m3 < n3) = true := decide_eq_true e1
          clear e1
          go_upto_region 5 with fail
          go_quiet (fail)
          revert nq
          intro na
          go_upto_region 7 with fail
          go_quiet (fail)
          have HBq := Lib.hid (pw_below_drewN (pw_below_drewN HBR.out na) nq)
          go_wp2
          go_ret
          exact ⟨congrArg (fun z => Ending.returned (Value.int .i64 z)) HV.out.symm, HBq.out⟩
        · subst e1
          have d1 : decide (n3 < n3) = false := decide_eq_false (by omega)
          go_upto_region 5 with fail
          go_quiet (fail)
          revert nq
          intro na
          go_upto_region 7 with fail
          go_quiet (fail)
          have HWq := Lib.hid (pw_below_drewN hW.out (na + nq))
          go_wp2
          go_roundw
          case rel => exact ⟨3, rfl, by omega, Lib.hid (by refine ⟨fun _ => ?_, fun _ => ?_, fun _ => ?_⟩ <;> first | trivial | exact HE.out.1 (by omega) | exact HE.out.2.1 (by omega) | omega), HWq⟩
          case measure => simp [intOf]
      · have HV := Lib.hid (show ord3 n1 n2 n3 m1 m2 m3 = 0 by
          obtain ⟨a1, a2, a3⟩ := HE.out
          rw [a1 (by omega), a2 (by omega), a3 (by omega)]
          unfold ord3 seg3
          simp)
        clear hg hh hk
        go_wp2
        go_ret
        exact ⟨congrArg (fun z => Ending.returned (Value.int .i64 z)) HV.out.symm, HBR.out⟩
set_option maxHeartbeats 1600000 in
set_option maxRecDepth 100000 in
theorem version9_call (k : Nat) (s : ByteArray) (n1 n2 n3 : Int) (pre mt : ByteArray) (hp : spec_ParseVersion.f k s = some (n1, n2, n3, pre, mt, true)) (b : Bool) (hs : spec_Short.f k n1 n2 n3 pre mt = some b) (w : World) :
    Calls Tryz.prog 4 #[.string s] w fun e w' => e = .returned (.tuple #[.agg #[.int .u64 n1, .int .u64 n2, .int .u64 n3, .string pre, .string mt], .bool b]) ∧ Below w.heap.size w w' := by
  have HP := Lib.hid (fun W => spec_ParseVersion.calls k s n1 n2 n3 pre mt true W hp)
  have HS := Lib.hid (fun W => spec_Short.calls k n1 n2 n3 pre mt b W hs)
  clear hp hs
  have HBZ := Lib.hid (heap_alloc_new w (.cells #[.int .u64 0, .int .u64 0, .int .u64 0, .string ⟨#[]⟩, .string ⟨#[]⟩] 24))
  have HB0 := Lib.hid (alloc_below w (.cells #[.int .u64 0, .int .u64 0, .int .u64 0, .string ⟨#[]⟩, .string ⟨#[]⟩] 24))
  go_enter Tryz.func4, Tryz.ntmps4
  go_wp2_with fail
  refine (HP.out _).mono ?_
  rintro e w1 ⟨rfl, hb1⟩
  have HB1 := Lib.hid (HB0.out.trans (hb1.mono HB0.out.size))
  have HZ1 := Lib.hid (blk_below HBZ.out hb1)
  clear hb1 HP HBZ HB0
  go_upto_region 2 with fail
  have HS1 := Lib.hid (show (w1.alloc (.cells #[.int .u64 n1, .int .u64 n2, .int .u64 n3, .string pre, .string mt] 24)).heap[w1.heap.size]? = some (.cells #[.int .u64 n1, .int .u64 n2, .int .u64 n3, .string pre, .string mt] 24 (0, 0)) ∧ (w1.alloc (.cells #[.int .u64 n1, .int .u64 n2, .int .u64 n3, .string pre, .string mt] 24)).heap[w.heap.size]? = some (.cells #[.int .u64 0, .int .u64 0, .int .u64 0, .string ⟨#[]⟩, .string ⟨#[]⟩] 24 (0, 0)) from ⟨heap_alloc_new w1 _, blk_below HZ1.out (alloc_below _ _)⟩)
  have HB2 := Lib.hid (HB1.out.trans ((alloc_below w1 (.cells #[.int .u64 n1, .int .u64 n2, .int .u64 n3, .string pre, .string mt] 24)).mono HB1.out.size))
  clear HZ1 HB1
  generalize w1.alloc (.cells #[.int .u64 n1, .int .u64 n2, .int .u64 n3, .string pre, .string mt] 24) = w2 at *
  generalize w1.heap.size = q at *
  have HS3 := Lib.hid (show w2.drew.heap[q]? = _ ∧ w2.drew.heap[w.heap.size]? = _ from HS1.out)
  have HB3 := Lib.hid (show Below w.heap.size w w2.drew from HB2.out.drew)
  clear HS1 HB2
  refine start_ (n := 8) (ds := [6]) (S := fun w' => w'.heap[q]? = some (.cells #[.int .u64 n1, .int .u64 n2, .int .u64 n3, .string pre, .string mt] 24 (0, 0)) ∧ w'.heap[w.heap.size]? = some (.cells #[.int .u64 0, .int .u64 0, .int .u64 0, .string ⟨#[]⟩, .string ⟨#[]⟩] 24 (0, 0))) #[false, false, false, false, false, false, false, false] (by kernel_rfl) rfl rfl (HS3.out) (fun hHeld => ?_)
  generalize w2.drew = v0 at *
  refine take_ (i := 0) (N := some 11) (v := ?_) (a' := ?_) #[true, false, false, false, false, false, false, false] rfl rfl (by kernel_rfl) (fun _ _ _ h => h) (Or.inl ⟨by rfl, ?_⟩) hHeld ?_ ?_
  rotate_left
  · intro w' hS
    obtain ⟨hS, _⟩ := hS
    have y0 := blk_cell hS 0
    have y1 := blk_cell hS 1
    have y2 := blk_cell hS 2
    have y3 := blk_cell hS 3
    have y4 := blk_cell hS 4
    simp only [List.getElem?_toArray, List.getElem?_cons_zero, List.getElem?_cons_succ] at y0 y1 y2 y3 y4
    clear hS
    go_simp
    with_reducible rfl
  rotate_left; (go_frame; rfl)
  refine pure_ (i := 1) (N := some 12) (v := ?_) (a' := ?_) #[true, true, false, false, false, false, false, false] rfl rfl (by kernel_rfl) (fun _ _ _ h => h) (Or.inl ⟨by rfl, ?_⟩) ?_ ?_
  rotate_left; (intro w'; go_simp; with_reducible rfl)
  rotate_left; (go_frame; rfl)
  refine pure_ (i := 2) (N := some 13) (v := ?_) (a' := ?_) #[true, true, true, false, false, false, false, false] rfl rfl (by kernel_rfl) (fun _ _ _ h => h) (Or.inl ⟨by rfl, ?_⟩) ?_ ?_
  rotate_left; (intro w'; go_simp; with_reducible rfl)
  rotate_left; (go_frame; rfl)
  refine take_ (i := 3) (N := some 14) (v := ?_) (a' := ?_) #[true, true, true, true, false, false, false, false] rfl rfl (by kernel_rfl) (fun _ _ _ h => h) (Or.inl ⟨by rfl, ?_⟩) hHeld ?_ ?_
  rotate_left
  · intro w' hS
    obtain ⟨hS, _⟩ := hS
    have y0 := blk_cell hS 0
    have y1 := blk_cell hS 1
    have y2 := blk_cell hS 2
    have y3 := blk_cell hS 3
    have y4 := blk_cell hS 4
    simp only [List.getElem?_toArray, List.getElem?_cons_zero, List.getElem?_cons_succ] at y0 y1 y2 y3 y4
    clear hS
    go_simp
    with_reducible rfl
  rotate_left; (go_frame; rfl)
  refine one_ (i := 4) (N := some 15) #[true, true, true, true, true, false, false, false] rfl rfl (by kernel_rfl) (by decide) (fun K hK => ?_)
  refine goes_ Tryz.func9 (by kernel_rfl) rfl #[.agg #[.int .u64 n1, .int .u64 n2, .int .u64 n3, .string pre, .string mt]] (by rfl) rfl rfl (by (try simp only [List.map_toArray, List.map_cons, List.map_nil]); first | done | rfl) ?_
  refine (HS.out v0).mono ?_
  rintro e v1 ⟨rfl, hb⟩
  have HS4 := Lib.hid (⟨blk_below HS3.out.1 hb, blk_below HS3.out.2 hb⟩ : _ ∧ _)
  have HB4 := Lib.hid (HB3.out.trans (hb.mono HB3.out.size))
  clear hb HS3 HB3 HS
  refine ⟨_, rfl, ?_⟩
  clear hHeld
  refine hK.out _ _ (HS4.out) (fun hHeld => ?_)
  clear hK K
  refine norm_ (a' := ?_) ?_ ?_
  rotate_left
  · show Act.put _ (some 15) _ = _
    go_frame
    rfl
  refine pure_ (i := 5) (N := some 16) (v := ?_) (a' := ?_) #[true, true, true, true, true, true, false, false] rfl rfl (by kernel_rfl) (fun _ _ _ h => h) (Or.inl ⟨by rfl, ?_⟩) ?_ ?_
  rotate_left; (intro w'; go_simp; with_reducible rfl)
  rotate_left; (go_frame; rfl)
  have z0 := blk_cell hHeld.2 0
  have z1 := blk_cell hHeld.2 1
  have z2 := blk_cell hHeld.2 2
  have z3 := blk_cell hHeld.2 3
  have z4 := blk_cell hHeld.2 4
  simp only [List.getElem?_toArray, List.getElem?_cons_zero, List.getElem?_cons_succ] at z0 z1 z2 z3 z4
  have f0 := blk_frozen hHeld.2 0
  have f1 := blk_frozen hHeld.2 1
  have f2 := blk_frozen hHeld.2 2
  have f3 := blk_frozen hHeld.2 3
  have f4 := blk_frozen hHeld.2 4
  refine last_ (i := 6) (N := none) #[true, true, true, true, true, true, true, false] rfl rfl (by kernel_rfl) (by decide) (fun K hK => ?_)
  refine skip_ (w1 := ?_) (by rfl) rfl ?_ ?_
  rotate_left
  · go_simp
    rfl
  refine hK.out _ _ ?_
  clear hK K
  refine pure_ (i := 7) (N := some 3) (v := ?_) (a' := ?_) #[true, true, true, true, true, true, true, true] rfl rfl (by kernel_rfl) (fun _ _ _ h => h) (Or.inl ⟨by rfl, ?_⟩) ?_ ?_
  rotate_left; (intro w'; go_simp; with_reducible rfl)
  rotate_left; (go_frame; rfl)
  refine done_ (by kernel_rfl) ?_
  have HZ := Lib.hid (show (((((v1.setCell ⟨w.heap.size, 0, none⟩ (.int .u64 n1)).setCell ⟨w.heap.size, 1, none⟩ (.int .u64 n2)).setCell ⟨w.heap.size, 2, none⟩ (.int .u64 n3)).setCell ⟨w.heap.size, 3, none⟩ (.string pre)).setCell ⟨w.heap.size, 4, none⟩ (.string mt)).heap[w.heap.size]? = some (.cells #[.int .u64 n1, .int .u64 n2, .int .u64 n3, .string pre, .string mt] 24 (0, 0)) from blk_set (blk_set (blk_set (blk_set (blk_set hHeld.2 0 _) 1 _) 2 _) 3 _) 4 _)
  have HF := Lib.hid (show Below w.heap.size w (((((v1.setCell ⟨w.heap.size, 0, none⟩ (.int .u64 n1)).setCell ⟨w.heap.size, 1, none⟩ (.int .u64 n2)).setCell ⟨w.heap.size, 2, none⟩ (.int .u64 n3)).setCell ⟨w.heap.size, 3, none⟩ (.string pre)).setCell ⟨w.heap.size, 4, none⟩ (.string mt)) from (((((HB4.out.setCell (p := ⟨w.heap.size, 0, none⟩) (Nat.le_refl _) _).setCell (p := ⟨w.heap.size, 1, none⟩) (Nat.le_refl _) _).setCell (p := ⟨w.heap.size, 2, none⟩) (Nat.le_refl _) _).setCell (p := ⟨w.heap.size, 3, none⟩) (Nat.le_refl _) _).setCell (p := ⟨w.heap.size, 4, none⟩) (Nat.le_refl _) _))
  clear z0 z1 z2 z3 z4 f0 f1 f2 f3 f4 hHeld
  generalize (((((v1.setCell ⟨w.heap.size, 0, none⟩ (.int .u64 n1)).setCell ⟨w.heap.size, 1, none⟩ (.int .u64 n2)).setCell ⟨w.heap.size, 2, none⟩ (.int .u64 n3)).setCell ⟨w.heap.size, 3, none⟩ (.string pre)).setCell ⟨w.heap.size, 4, none⟩ (.string mt)) = w9 at *
  go_wp2
  (try simp only [Exit.inBlock, Exit.then])
  refine bodyPost_ret (results_ct rfl _ _ w.heap.size 24 #[.int .u64 n1, .int .u64 n2, .int .u64 n3, .string pre, .string mt] (0, 0) _ rfl HZ.out Tryz.underlying24 rfl (by kernel_rfl)) rfl ?_
  exact ⟨rfl, HF.out⟩
set_option maxHeartbeats 1600000 in
set_option maxRecDepth 100000 in
theorem version9_no (k : Nat) (s : ByteArray) (n1 n2 n3 : Int) (pre mt : ByteArray) (hp : spec_ParseVersion.f k s = some (n1, n2, n3, pre, mt, false)) (w : World) :
    Calls Tryz.prog 4 #[.string s] w fun e w' => e = .returned (.tuple #[.agg #[.int .u64 n1, .int .u64 n2, .int .u64 n3, .string pre, .string mt], .bool false]) ∧ Below w.heap.size w w' := by
  have HP := Lib.hid (fun W => spec_ParseVersion.calls k s n1 n2 n3 pre mt false W hp)
  clear hp
  have HBZ := Lib.hid (heap_alloc_new w (.cells #[.int .u64 0, .int .u64 0, .int .u64 0, .string ⟨#[]⟩, .string ⟨#[]⟩] 24))
  have HB0 := Lib.hid (alloc_below w (.cells #[.int .u64 0, .int .u64 0, .int .u64 0, .string ⟨#[]⟩, .string ⟨#[]⟩] 24))
  go_enter Tryz.func4, Tryz.ntmps4
  go_wp2_with fail
  refine (HP.out _).mono ?_
  rintro e w1 ⟨rfl, hb1⟩
  have HB1 := Lib.hid (HB0.out.trans (hb1.mono HB0.out.size))
  have HZ1 := Lib.hid (blk_below HBZ.out hb1)
  clear hb1 HP HBZ HB0
  go_upto_region 2 with fail
  have HS1 := Lib.hid (show (w1.alloc (.cells #[.int .u64 n1, .int .u64 n2, .int .u64 n3, .string pre, .string mt] 24)).heap[w1.heap.size]? = some (.cells #[.int .u64 n1, .int .u64 n2, .int .u64 n3, .string pre, .string mt] 24 (0, 0)) ∧ (w1.alloc (.cells #[.int .u64 n1, .int .u64 n2, .int .u64 n3, .string pre, .string mt] 24)).heap[w.heap.size]? = some (.cells #[.int .u64 0, .int .u64 0, .int .u64 0, .string ⟨#[]⟩, .string ⟨#[]⟩] 24 (0, 0)) from ⟨heap_alloc_new w1 _, blk_below HZ1.out (alloc_below _ _)⟩)
  have HB2 := Lib.hid (HB1.out.trans ((alloc_below w1 (.cells #[.int .u64 n1, .int .u64 n2, .int .u64 n3, .string pre, .string mt] 24)).mono HB1.out.size))
  clear HZ1 HB1
  generalize w1.alloc (.cells #[.int .u64 n1, .int .u64 n2, .int .u64 n3, .string pre, .string mt] 24) = w2 at *
  generalize w1.heap.size = q at *
  have HS3 := Lib.hid (show w2.drew.heap[q]? = _ ∧ w2.drew.heap[w.heap.size]? = _ from HS1.out)
  have HB3 := Lib.hid (show Below w.heap.size w w2.drew from HB2.out.drew)
  clear HS1 HB2
  refine start_ (n := 8) (ds := [6]) (S := fun w' => w'.heap[q]? = some (.cells #[.int .u64 n1, .int .u64 n2, .int .u64 n3, .string pre, .string mt] 24 (0, 0)) ∧ w'.heap[w.heap.size]? = some (.cells #[.int .u64 0, .int .u64 0, .int .u64 0, .string ⟨#[]⟩, .string ⟨#[]⟩] 24 (0, 0))) #[false, false, false, false, false, false, false, false] (by kernel_rfl) rfl rfl (HS3.out) (fun hHeld => ?_)
  generalize w2.drew = v0 at *
  refine take_ (i := 0) (N := some 11) (v := ?_) (a' := ?_) #[true, false, false, false, false, false, false, false] rfl rfl (by kernel_rfl) (fun _ _ _ h => h) (Or.inl ⟨by rfl, ?_⟩) hHeld ?_ ?_
  rotate_left
  · intro w' hS
    obtain ⟨hS, _⟩ := hS
    have y0 := blk_cell hS 0
    have y1 := blk_cell hS 1
    have y2 := blk_cell hS 2
    have y3 := blk_cell hS 3
    have y4 := blk_cell hS 4
    simp only [List.getElem?_toArray, List.getElem?_cons_zero, List.getElem?_cons_succ] at y0 y1 y2 y3 y4
    clear hS
    go_simp
    with_reducible rfl
  rotate_left; (go_frame; rfl)
  refine pure_ (i := 1) (N := some 12) (v := ?_) (a' := ?_) #[true, true, false, false, false, false, false, false] rfl rfl (by kernel_rfl) (fun _ _ _ h => h) (Or.inl ⟨by rfl, ?_⟩) ?_ ?_
  rotate_left; (intro w'; go_simp; with_reducible rfl)
  rotate_left; (go_frame; rfl)
  refine pure_ (i := 2) (N := some 13) (v := ?_) (a' := ?_) #[true, true, true, false, false, false, false, false] rfl rfl (by kernel_rfl) (fun _ _ _ h => h) (Or.inl ⟨by rfl, ?_⟩) ?_ ?_
  rotate_left; (intro w'; go_simp; with_reducible rfl)
  rotate_left; (go_frame; rfl)
  refine pure_ (i := 3) (N := some 14) (v := undef) (a' := ?_) #[true, true, true, true, false, false, false, false] rfl rfl (by kernel_rfl) (fun _ _ _ h => h) (Or.inr ⟨by rfl, rfl⟩) ?_ ?_
  rotate_left; (go_frame; rfl)
  refine pure_ (i := 4) (N := some 15) (v := undef) (a' := ?_) #[true, true, true, true, true, false, false, false] rfl rfl (by kernel_rfl) (fun _ _ _ h => h) (Or.inr ⟨by rfl, rfl⟩) ?_ ?_
  rotate_left; (go_frame; rfl)
  refine pure_ (i := 5) (N := some 16) (v := ?_) (a' := ?_) #[true, true, true, true, true, true, false, false] rfl rfl (by kernel_rfl) (fun _ _ _ h => h) (Or.inl ⟨by rfl, ?_⟩) ?_ ?_
  rotate_left; (intro w'; go_simp; with_reducible rfl)
  rotate_left; (go_frame; rfl)
  have z0 := blk_cell hHeld.2 0
  have z1 := blk_cell hHeld.2 1
  have z2 := blk_cell hHeld.2 2
  have z3 := blk_cell hHeld.2 3
  have z4 := blk_cell hHeld.2 4
  simp only [List.getElem?_toArray, List.getElem?_cons_zero, List.getElem?_cons_succ] at z0 z1 z2 z3 z4
  have f0 := blk_frozen hHeld.2 0
  have f1 := blk_frozen hHeld.2 1
  have f2 := blk_frozen hHeld.2 2
  have f3 := blk_frozen hHeld.2 3
  have f4 := blk_frozen hHeld.2 4
  refine last_ (i := 6) (N := none) #[true, true, true, true, true, true, true, false] rfl rfl (by kernel_rfl) (by decide) (fun K hK => ?_)
  refine skip_ (w1 := ?_) (by rfl) rfl ?_ ?_
  rotate_left
  · go_simp
    rfl
  refine hK.out _ _ ?_
  clear hK K
  refine pure_ (i := 7) (N := some 3) (v := ?_) (a' := ?_) #[true, true, true, true, true, true, true, true] rfl rfl (by kernel_rfl) (fun _ _ _ h => h) (Or.inl ⟨by rfl, ?_⟩) ?_ ?_
  rotate_left; (intro w'; go_simp; with_reducible rfl)
  rotate_left; (go_frame; rfl)
  refine done_ (by kernel_rfl) ?_
  have HZ := Lib.hid (show (((((v0.setCell ⟨w.heap.size, 0, none⟩ (.int .u64 n1)).setCell ⟨w.heap.size, 1, none⟩ (.int .u64 n2)).setCell ⟨w.heap.size, 2, none⟩ (.int .u64 n3)).setCell ⟨w.heap.size, 3, none⟩ (.string pre)).setCell ⟨w.heap.size, 4, none⟩ (.string mt)).heap[w.heap.size]? = some (.cells #[.int .u64 n1, .int .u64 n2, .int .u64 n3, .string pre, .string mt] 24 (0, 0)) from blk_set (blk_set (blk_set (blk_set (blk_set hHeld.2 0 _) 1 _) 2 _) 3 _) 4 _)
  have HF := Lib.hid (show Below w.heap.size w (((((v0.setCell ⟨w.heap.size, 0, none⟩ (.int .u64 n1)).setCell ⟨w.heap.size, 1, none⟩ (.int .u64 n2)).setCell ⟨w.heap.size, 2, none⟩ (.int .u64 n3)).setCell ⟨w.heap.size, 3, none⟩ (.string pre)).setCell ⟨w.heap.size, 4, none⟩ (.string mt)) from (((((HB3.out.setCell (p := ⟨w.heap.size, 0, none⟩) (Nat.le_refl _) _).setCell (p := ⟨w.heap.size, 1, none⟩) (Nat.le_refl _) _).setCell (p := ⟨w.heap.size, 2, none⟩) (Nat.le_refl _) _).setCell (p := ⟨w.heap.size, 3, none⟩) (Nat.le_refl _) _).setCell (p := ⟨w.heap.size, 4, none⟩) (Nat.le_refl _) _))
  clear z0 z1 z2 z3 z4 f0 f1 f2 f3 f4 hHeld
  generalize (((((v0.setCell ⟨w.heap.size, 0, none⟩ (.int .u64 n1)).setCell ⟨w.heap.size, 1, none⟩ (.int .u64 n2)).setCell ⟨w.heap.size, 2, none⟩ (.int .u64 n3)).setCell ⟨w.heap.size, 3, none⟩ (.string pre)).setCell ⟨w.heap.size, 4, none⟩ (.string mt)) = w9 at *
  go_wp2
  (try simp only [Exit.inBlock, Exit.then])
  refine bodyPost_ret (results_ct rfl _ _ w.heap.size 24 #[.int .u64 n1, .int .u64 n2, .int .u64 n3, .string pre, .string mt] (0, 0) _ rfl HZ.out Tryz.underlying24 rfl (by kernel_rfl)) rfl ?_
  exact ⟨rfl, HF.out⟩
end Go.Proofs.YtlhijjfbcgconaaGreatDoor.P

