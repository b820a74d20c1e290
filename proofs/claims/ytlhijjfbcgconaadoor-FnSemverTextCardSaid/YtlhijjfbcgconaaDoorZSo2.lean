/- Versions: spec.Order, laws.version9. -/
import Derived.Test.YtlhijjfbcgconaaDoorZSv
import Derived.Test.YtlhijjfbcgconaaDoorZQA2
set_option linter.unusedVariables false
set_option linter.unusedSimpArgs false
namespace Go.Proofs.YtlhijjfbcgconaaDoor.P
open Go.RowKit Go.Proofs.YtlhijjfbcgconaaDoorW.PrintWords Go.Proofs.YtlhijjfbcgconaaDoorW.PrintLast Go.Proofs.YtlhijjfbcgconaaDoorW.PrintMore

set_option maxHeartbeats 1600000 in
set_option maxRecDepth 100000 in
theorem alloc_below (w : World) (ob : Obj) : Below w.heap.size w (w.alloc ob) := (Below.refl _ _).alloc (Nat.le_refl _) _
set_option maxHeartbeats 1600000 in
set_option maxRecDepth 100000 in
theorem version9_call (k : Nat) (s : ByteArray) (n1 n2 n3 : Int) (pre mt : ByteArray) (hp : spec_ParseVersion.f k s = some (n1, n2, n3, pre, mt, true)) (b : Bool) (hs : spec_Short.f k n1 n2 n3 pre mt = some b) (w : World) :
    Calls Tryd.prog 12 #[.string s] w fun e w' => e = .returned (.tuple #[.agg #[.int .u64 n1, .int .u64 n2, .int .u64 n3, .string pre, .string mt], .bool b]) ∧ Below w.heap.size w w' := by
  have HP := Lib.hid (fun W => spec_ParseVersion.calls k s n1 n2 n3 pre mt true W hp)
  have HS := Lib.hid (fun W => spec_Short.calls k n1 n2 n3 pre mt b W hs)
  clear hp hs
  have HBZ := Lib.hid (heap_alloc_new w (.cells #[.int .u64 0, .int .u64 0, .int .u64 0, .string ⟨#[]⟩, .string ⟨#[]⟩] 24))
  have HB0 := Lib.hid (alloc_below w (.cells #[.int .u64 0, .int .u64 0, .int .u64 0, .string ⟨#[]⟩, .string ⟨#[]⟩] 24))
  go_enter Tryd.func12, Tryd.ntmps12
  go_wp2_with fail
  refine (HP.out _).mono ?_
  rintro e w1 ⟨rfl, hb1⟩
  have HB1 := Lib.hid (HB0.out.trans (hb1.mono HB0.out.size))
  have HZ1 := Lib.hid (blk_below HBZ.out hb1)
  clear hb1 HP HBZ HB0
  go_upto_region 2 with fail
  have HS1 := Lib.hid (show (w1.alloc (.cells #[.int .u64 n1, .int .u64 n2, .int .u64 n3, .string pre, .string mt] 24)).heap[w1.heap.size]? = some (.cells #[.int .u64 n1, .int .u64 n2, .int .u64 n3, .string pre, .string mt] 24 (0, 0)) ∧ (w1.alloc (.cells #[.int .u64 n1, .int .u64 n2, .int .u64 n3, .string pre, .string mt] 24)).heap[w.heap.size]? = some (.cells #[.int .u64 0, .int .u64 0, .int .u64 0, .string ⟨#[]⟩, .string ⟨#[]⟩] 24 (0, 0)) from ⟨heap_alloc_new w1 _, blk_below HZ1.out (alloc_below _ _)⟩)
  have HB2 := Lib.hid (HB1.out.trans ((alloc_below w1 (.cells #[.int .u64 n1, .int .u64 n2, .int .u64 n3, .string pre, .string mt] 24)).mono HB1.out.size))
  clear HZ1 HB1
  generalize w1.alloc (.cells #[.int .u64 n1, .int .u64 n2, .int .u64 n3, .string pre, .string mt] 24) = w2 at *
  generalize w1.heap.size = q at *
  have HS3 := Lib.hid (show w2.drew.heap[q]? = _ ∧ w2.drew.heap[w.heap.size]? = _ from HS1.out)
  have HB3 := Lib.hid (show Below w.heap.size w w2.drew from HB2.out.drew)
  clear HS1 HB2
  refine start_ (n := 8) (ds := [6]) (S := fun w' => w'.heap[q]? = some (.cells #[.int .u64 n1, .int .u64 n2, .int .u64 n3, .string pre, .string mt] 24 (0, 0)) ∧ w'.heap[w.heap.size]? = some (.cells #[.int .u64 0, .int .u64 0, .int .u64 0, .string ⟨#[]⟩, .string ⟨#[]⟩] 24 (0, 0))) #[false, false, false, false, false, false, false, false] (by kernel_rfl) rfl rfl (HS3.out) (fun hHeld => ?_)
  generalize w2.drew = v0 at *
  refine take_ (i := 0) (N := some 11) (v := ?_) (a' := ?_) #[true, false, false, false, false, false, false, false] rfl rfl (by kernel_rfl) (fun _ _ _ h => h) (Or.inl ⟨by rfl, ?_⟩) hHeld ?_ ?_
  rotate_left
  · intro w' hS
    obtain ⟨hS, _⟩ := hS
    have y0 := blk_cell hS 0
    have y1 := blk_cell hS 1
    have y2 := blk_cell hS 2
    have y3 := blk_cell hS 3
    have y4 := blk_cell hS 4
    simp only [List.getElem?_toArray, List.getElem?_cons_zero, List.getElem?_cons_succ] at y0 y1 y2 y3 y4
    clear hS
    go_simp
    with_reducible rfl
  rotate_left; (go_frame; rfl)
  refine pure_ (i := 1) (N := some 12) (v := ?_) (a' := ?_) #[true, true, false, false, false, false, false, false] rfl rfl (by kernel_rfl) (fun _ _ _ h => h) (Or.inl ⟨by rfl, ?_⟩) ?_ ?_
  rotate_left; (intro w'; go_simp; with_reducible rfl)
  rotate_left; (go_frame; rfl)
  refine pure_ (i := 2) (N := some 13) (v := ?_) (a' := ?_) #[true, true, true, false, false, false, false, false] rfl rfl (by kernel_rfl) (fun _ _ _ h => h) (Or.inl ⟨by rfl, ?_⟩) ?_ ?_
  rotate_left; (intro w'; go_simp; with_reducible rfl)
  rotate_left; (go_frame; rfl)
  refine take_ (i := 3) (N := some 14) (v := ?_) (a' := ?_) #[true, true, true, true, false, false, false, false] rfl rfl (by kernel_rfl) (fun _ _ _ h => h) (Or.inl ⟨by rfl, ?_⟩) hHeld ?_ ?_
  rotate_left
  · intro w' hS
    obtain ⟨hS, _⟩ := hS
    have y0 := blk_cell hS 0
    have y1 := blk_cell hS 1
    have y2 := blk_cell hS 2
    have y3 := blk_cell hS 3
    have y4 := blk_cell hS 4
    simp only [List.getElem?_toArray, List.getElem?_cons_zero, List.getElem?_cons_succ] at y0 y1 y2 y3 y4
    clear hS
    go_simp
    with_reducible rfl
  rotate_left; (go_frame; rfl)
  refine one_ (i := 4) (N := some 15) #[true, true, true, true, true, false, false, false] rfl rfl (by kernel_rfl) (by decide) (fun K hK => ?_)
  refine goes_ Tryd.func34 (by kernel_rfl) rfl #[.agg #[.int .u64 n1, .int .u64 n2, .int .u64 n3, .string pre, .string mt]] (by rfl) rfl rfl (by (try simp only [List.map_toArray, List.map_cons, List.map_nil]); first | done | rfl) ?_
  refine (HS.out v0).mono ?_
  rintro e v1 ⟨rfl, hb⟩
  have HS4 := Lib.hid (⟨blk_below HS3.out.1 hb, blk_below HS3.out.2 hb⟩ : _ ∧ _)
  have HB4 := Lib.hid (HB3.out.trans (hb.mono HB3.out.size))
  clear hb HS3 HB3 HS
  refine ⟨_, rfl, ?_⟩
  clear hHeld
  refine hK.out _ _ (HS4.out) (fun hHeld => ?_)
  clear hK K
  refine norm_ (a' := ?_) ?_ ?_
  rotate_left
  · show Act.put _ (some 15) _ = _
    go_frame
    rfl
  refine pure_ (i := 5) (N := some 16) (v := ?_) (a' := ?_) #[true, true, true, true, true, true, false, false] rfl rfl (by kernel_rfl) (fun _ _ _ h => h) (Or.inl ⟨by rfl, ?_⟩) ?_ ?_
  rotate_left; (intro w'; go_simp; with_reducible rfl)
  rotate_left; (go_frame; rfl)
  have z0 := blk_cell hHeld.2 0
  have z1 := blk_cell hHeld.2 1
  have z2 := blk_cell hHeld.2 2
  have z3 := blk_cell hHeld.2 3
  have z4 := blk_cell hHeld.2 4
  simp only [List.getElem?_toArray, List.getElem?_cons_zero, List.getElem?_cons_succ] at z0 z1 z2 z3 z4
  have f0 := blk_frozen hHeld.2 0
  have f1 := blk_frozen hHeld.2 1
  have f2 := blk_frozen hHeld.2 2
  have f3 := blk_frozen hHeld.2 3
  have f4 := blk_frozen hHeld.2 4
  refine last_ (i := 6) (N := none) #[true, true, true, true, true, true, true, false] rfl rfl (by kernel_rfl) (by decide) (fun K hK => ?_)
  refine skip_ (w1 := ?_) (by rfl) rfl ?_ ?_
  rotate_left
  · go_simp
    rfl
  refine hK.out _ _ ?_
  clear hK K
  refine pure_ (i := 7) (N := some 3) (v := ?_) (a' := ?_) #[true, true, true, true, true, true, true, true] rfl rfl (by kernel_rfl) (fun _ _ _ h => h) (Or.inl ⟨by rfl, ?_⟩) ?_ ?_
  rotate_left; (intro w'; go_simp; with_reducible rfl)
  rotate_left; (go_frame; rfl)
  refine done_ (by kernel_rfl) ?_
  have HZ := Lib.hid (show (((((v1.setCell ⟨w.heap.size, 0, none⟩ (.int .u64 n1)).setCell ⟨w.heap.size, 1, none⟩ (.int .u64 n2)).setCell ⟨w.heap.size, 2, none⟩ (.int .u64 n3)).setCell ⟨w.heap.size, 3, none⟩ (.string pre)).setCell ⟨w.heap.size, 4, none⟩ (.string mt)).heap[w.heap.size]? = some (.cells #[.int .u64 n1, .int .u64 n2, .int .u64 n3, .string pre, .string mt] 24 (0, 0)) from blk_set (blk_set (blk_set (blk_set (blk_set hHeld.2 0 _) 1 _) 2 _) 3 _) 4 _)
  have HF := Lib.hid (show Below w.heap.size w (((((v1.setCell ⟨w.heap.size, 0, none⟩ (.int .u64 n1)).setCell ⟨w.heap.size, 1, none⟩ (.int .u64 n2)).setCell ⟨w.heap.size, 2, none⟩ (.int .u64 n3)).setCell ⟨w.heap.size, 3, none⟩ (.string pre)).setCell ⟨w.heap.size, 4, none⟩ (.string mt)) from (((((HB4.out.setCell (p := ⟨w.heap.size, 0, none⟩) (Nat.le_refl _) _).setCell (p := ⟨w.heap.size, 1, none⟩) (Nat.le_refl _) _).setCell (p := ⟨w.heap.size, 2, none⟩) (Nat.le_refl _) _).setCell (p := ⟨w.heap.size, 3, none⟩) (Nat.le_refl _) _).setCell (p := ⟨w.heap.size, 4, none⟩) (Nat.le_refl _) _))
  clear z0 z1 z2 z3 z4 f0 f1 f2 f3 f4 hHeld
  generalize (((((v1.setCell ⟨w.heap.size, 0, none⟩ (.int .u64 n1)).setCell ⟨w.heap.size, 1, none⟩ (.int .u64 n2)).setCell ⟨w.heap.size, 2, none⟩ (.int .u64 n3)).setCell ⟨w.heap.size, 3, none⟩ (.string pre)).setCell ⟨w.heap.size, 4, none⟩ (.string mt)) = w9 at *
  go_wp2
  (try simp only [Exit.inBlock, Exit.then])
  refine bodyPost_ret (results_ct rfl _ _ w.heap.size 24 #[.int .u64 n1, .int .u64 n2, .int .u64 n3, .string pre, .string mt] (0, 0) _ rfl HZ.out Tryd.underlying24 rfl (by kernel_rfl)) rfl ?_
  exact ⟨rfl, HF.out⟩
set_option maxHeartbeats 1600000 in
set_option maxRecDepth 100000 in
theorem version9_no (k : Nat) (s : ByteArray) (n1 n2 n3 : Int) (pre mt : ByteArray) (hp : spec_ParseVersion.f k s = some (n1, n2, n3, pre, mt, false)) (w : World) :
    Calls Tryd.prog 12 #[.string s] w fun e w' => e = .returned (.tuple #[.agg #[.int .u64 n1, .int .u64 n2, .int .u64 n3, .string pre, .string mt], .bool false]) ∧ Below w.heap.size w w' := by
  have HP := Lib.hid (fun W => spec_ParseVersion.calls k s n1 n2 n3 pre mt false W hp)
  clear hp
  have HBZ := Lib.hid (heap_alloc_new w (.cells #[.int .u64 0, .int .u64 0, .int .u64 0, .string ⟨#[]⟩, .string ⟨#[]⟩] 24))
  have HB0 := Lib.hid (alloc_below w (.cells #[.int .u64 0, .int .u64 0, .int .u64 0, .string ⟨#[]⟩, .string ⟨#[]⟩] 24))
  go_enter Tryd.func12, Tryd.ntmps12
  go_wp2_with fail
  refine (HP.out _).mono ?_
  rintro e w1 ⟨rfl, hb1⟩
  have HB1 := Lib.hid (HB0.out.trans (hb1.mono HB0.out.size))
  have HZ1 := Lib.hid (blk_below HBZ.out hb1)
  clear hb1 HP HBZ HB0
  go_upto_region 2 with fail
  have HS1 := Lib.hid (show (w1.alloc (.cells #[.int .u64 n1, .int .u64 n2, .int .u64 n3, .string pre, .string mt] 24)).heap[w1.heap.size]? = some (.cells #[.int .u64 n1, .int .u64 n2, .int .u64 n3, .string pre, .string mt] 24 (0, 0)) ∧ (w1.alloc (.cells #[.int .u64 n1, .int .u64 n2, .int .u64 n3, .string pre, .string mt] 24)).heap[w.heap.size]? = some (.cells #[.int .u64 0, .int .u64 0, .int .u64 0, .string ⟨#[]⟩, .string ⟨#[]⟩] 24 (0, 0)) from ⟨heap_alloc_new w1 _, blk_below HZ1.out (alloc_below _ _)⟩)
  have HB2 := Lib.hid (HB1.out.trans ((alloc_below w1 (.cells #[.int .u64 n1, .int .u64 n2, .int .u64 n3, .string pre, .string mt] 24)).mono HB1.out.size))
  clear HZ1 HB1
  generalize w1.alloc (.cells #[.int .u64 n1, .int .u64 n2, .int .u64 n3, .string pre, .string mt] 24) = w2 at *
  generalize w1.heap.size = q at *
  have HS3 := Lib.hid (show w2.drew.heap[q]? = _ ∧ w2.drew.heap[w.heap.size]? = _ from HS1.out)
  have HB3 := Lib.hid (show Below w.heap.size w w2.drew from HB2.out.drew)
  clear HS1 HB2
  refine start_ (n := 8) (ds := [6]) (S := fun w' => w'.heap[q]? = some (.cells #[.int .u64 n1, .int .u64 n2, .int .u64 n3, .string pre, .string mt] 24 (0, 0)) ∧ w'.heap[w.heap.size]? = some (.cells #[.int .u64 0, .int .u64 0, .int .u64 0, .string ⟨#[]⟩, .string ⟨#[]⟩] 24 (0, 0))) #[false, false, false, false, false, false, false, false] (by kernel_rfl) rfl rfl (HS3.out) (fun hHeld => ?_)
  generalize w2.drew = v0 at *
  refine take_ (i := 0) (N := some 11) (v := ?_) (a' := ?_) #[true, false, false, false, false, false, false, false] rfl rfl (by kernel_rfl) (fun _ _ _ h => h) (Or.inl ⟨by rfl, ?_⟩) hHeld ?_ ?_
  rotate_left
  · intro w' hS
    obtain ⟨hS, _⟩ := hS
    have y0 := blk_cell hS 0
    have y1 := blk_cell hS 1
    have y2 := blk_cell hS 2
    have y3 := blk_cell hS 3
    have y4 := blk_cell hS 4
    simp only [List.getElem?_toArray, List.getElem?_cons_zero, List.getElem?_cons_succ] at y0 y1 y2 y3 y4
    clear hS
    go_simp
    with_reducible rfl
  rotate_left; (go_frame; rfl)
  refine pure_ (i := 1) (N := some 12) (v := ?_) (a' := ?_) #[true, true, false, false, false, false, false, false] rfl rfl (by kernel_rfl) (fun _ _ _ h => h) (Or.inl ⟨by rfl, ?_⟩) ?_ ?_
  rotate_left; (intro w'; go_simp; with_reducible rfl)
  rotate_left; (go_frame; rfl)
  refine pure_ (i := 2) (N := some 13) (v := ?_) (a' := ?_) #[true, true, true, false, false, false, false, false] rfl rfl (by kernel_rfl) (fun _ _ _ h => h) (Or.inl ⟨by rfl, ?_⟩) ?_ ?_
  rotate_left; (intro w'; go_simp; with_reducible rfl)
  rotate_left; (go_frame; rfl)
  refine pure_ (i := 3) (N := some 14) (v := undef) (a' := ?_) #[true, true, true, true, false, false, false, false] rfl rfl (by kernel_rfl) (fun _ _ _ h => h) (Or.inr ⟨by rfl, rfl⟩) ?_ ?_
  rotate_left; (go_frame; rfl)
  refine pure_ (i := 4) (N := some 15) (v := undef) (a' := ?_) #[true, true, true, true, true, false, false, false] rfl rfl (by kernel_rfl) (fun _ _ _ h => h) (Or.inr ⟨by rfl, rfl⟩) ?_ ?_
  rotate_left; (go_frame; rfl)
  refine pure_ (i := 5) (N := some 16) (v := ?_) (a' := ?_) #[true, true, true, true, true, true, false, false] rfl rfl (by kernel_rfl) (fun _ _ _ h => h) (Or.inl ⟨by rfl, ?_⟩) ?_ ?_
  rotate_left; (intro w'; go_simp; with_reducible rfl)
  rotate_left; (go_frame; rfl)
  have z0 := blk_cell hHeld.2 0
  have z1 := blk_cell hHeld.2 1
  have z2 := blk_cell hHeld.2 2
  have z3 := blk_cell hHeld.2 3
  have z4 := blk_cell hHeld.2 4
  simp only [List.getElem?_toArray, List.getElem?_cons_zero, List.getElem?_cons_succ] at z0 z1 z2 z3 z4
  have f0 := blk_frozen hHeld.2 0
  have f1 := blk_frozen hHeld.2 1
  have f2 := blk_frozen hHeld.2 2
  have f3 := blk_frozen hHeld.2 3
  have f4 := blk_frozen hHeld.2 4
  refine last_ (i := 6) (N := none) #[true, true, true, true, true, true, true, false] rfl rfl (by kernel_rfl) (by decide) (fun K hK => ?_)
  refine skip_ (w1 := ?_) (by rfl) rfl ?_ ?_
  rotate_left
  · go_simp
    rfl
  refine hK.out _ _ ?_
  clear hK K
  refine pure_ (i := 7) (N := some 3) (v := ?_) (a' := ?_) #[true, true, true, true, true, true, true, true] rfl rfl (by kernel_rfl) (fun _ _ _ h => h) (Or.inl ⟨by rfl, ?_⟩) ?_ ?_
  rotate_left; (intro w'; go_simp; with_reducible rfl)
  rotate_left; (go_frame; rfl)
  refine done_ (by kernel_rfl) ?_
  have HZ := Lib.hid (show (((((v0.setCell ⟨w.heap.size, 0, none⟩ (.int .u64 n1)).setCell ⟨w.heap.size, 1, none⟩ (.int .u64 n2)).setCell ⟨w.heap.size, 2, none⟩ (.int .u64 n3)).setCell ⟨w.heap.size, 3, none⟩ (.string pre)).setCell ⟨w.heap.size, 4, none⟩ (.string mt)).heap[w.heap.size]? = some (.cells #[.int .u64 n1, .int .u64 n2, .int .u64 n3, .string pre, .string mt] 24 (0, 0)) from blk_set (blk_set (blk_set (blk_set (blk_set hHeld.2 0 _) 1 _) 2 _) 3 _) 4 _)
  have HF := Lib.hid (show Below w.heap.size w (((((v0.setCell ⟨w.heap.size, 0, none⟩ (.int .u64 n1)).setCell ⟨w.heap.size, 1, none⟩ (.int .u64 n2)).setCell ⟨w.heap.size, 2, none⟩ (.int .u64 n3)).setCell ⟨w.heap.size, 3, none⟩ (.string pre)).setCell ⟨w.heap.size, 4, none⟩ (.string mt)) from (((((HB3.out.setCell (p := ⟨w.heap.size, 0, none⟩) (Nat.le_refl _) _).setCell (p := ⟨w.heap.size, 1, none⟩) (Nat.le_refl _) _).setCell (p := ⟨w.heap.size, 2, none⟩) (Nat.le_refl _) _).setCell (p := ⟨w.heap.size, 3, none⟩) (Nat.le_refl _) _).setCell (p := ⟨w.heap.size, 4, none⟩) (Nat.le_refl _) _))
  clear z0 z1 z2 z3 z4 f0 f1 f2 f3 f4 hHeld
  generalize (((((v0.setCell ⟨w.heap.size, 0, none⟩ (.int .u64 n1)).setCell ⟨w.heap.size, 1, none⟩ (.int .u64 n2)).setCell ⟨w.heap.size, 2, none⟩ (.int .u64 n3)).setCell ⟨w.heap.size, 3, none⟩ (.string pre)).setCell ⟨w.heap.size, 4, none⟩ (.string mt)) = w9 at *
  go_wp2
  (try simp only [Exit.inBlock, Exit.then])
  refine bodyPost_ret (results_ct rfl _ _ w.heap.size 24 #[.int .u64 n1, .int .u64 n2, .int .u64 n3, .string pre, .string mt] (0, 0) _ rfl HZ.out Tryd.underlying24 rfl (by kernel_rfl)) rfl ?_
  exact ⟨rfl, HF.out⟩
end Go.Proofs.YtlhijjfbcgconaaDoor.P

