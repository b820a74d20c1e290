/- FnSemver holds. -/
import Derived.Test.YtlhijjfbcgconaaDoorSv5
set_option linter.unusedVariables false
set_option linter.unusedSimpArgs false
namespace Go.Proofs.YtlhijjfbcgconaaDoor.P
open Go.RowKit Go.Proofs.YtlhijjfbcgconaaDoorW.PrintWords Go.Proofs.YtlhijjfbcgconaaDoorW.PrintLast Go.Proofs.YtlhijjfbcgconaaDoorW.PrintMore

theorem results_tmp6 {fn : Func} {t0 t1 t2 t3 t4 t5 : Tmp} (h : fn.results = #[.tmp t0, .tmp t1, .tmp t2, .tmp t3, .tmp t4, .tmp t5]) (tmps : Array Value) (P : Program) (w : World) :
    (results fn tmps).run P w = .ok (.tuple #[tmps.getD t0 undef, tmps.getD t1 undef, tmps.getD t2 undef, tmps.getD t3 undef, tmps.getD t4 undef, tmps.getD t5 undef]) w := by
  simp [results, h]
set_option maxHeartbeats 1600000 in
set_option maxRecDepth 100000 in
theorem verMajor_call (n1 n2 n3 : Int) (pre mt og : ByteArray) (w : World) : Calls Tryd.prog 29 #[.agg #[.int .u64 n1, .int .u64 n2, .int .u64 n3, .string pre, .string mt, .string og]] w fun e w' => e = .returned (.int .u64 n1) ∧ Below w.heap.size w w' := by
  have HB := Lib.hid (fun o => (Below.refl w.heap.size w).alloc (Nat.le_refl _) o)
  go_enter Tryd.func29, Tryd.ntmps29
  go_wp2
  go_ret
  exact ⟨rfl, HB.out _⟩
set_option maxHeartbeats 1600000 in
set_option maxRecDepth 100000 in
theorem verMinor_call (n1 n2 n3 : Int) (pre mt og : ByteArray) (w : World) : Calls Tryd.prog 30 #[.agg #[.int .u64 n1, .int .u64 n2, .int .u64 n3, .string pre, .string mt, .string og]] w fun e w' => e = .returned (.int .u64 n2) ∧ Below w.heap.size w w' := by
  have HB := Lib.hid (fun o => (Below.refl w.heap.size w).alloc (Nat.le_refl _) o)
  go_enter Tryd.func30, Tryd.ntmps30
  go_wp2
  go_ret
  exact ⟨rfl, HB.out _⟩
set_option maxHeartbeats 1600000 in
set_option maxRecDepth 100000 in
theorem verPatch_call (n1 n2 n3 : Int) (pre mt og : ByteArray) (w : World) : Calls Tryd.prog 31 #[.agg #[.int .u64 n1, .int .u64 n2, .int .u64 n3, .string pre, .string mt, .string og]] w fun e w' => e = .returned (.int .u64 n3) ∧ Below w.heap.size w w' := by
  have HB := Lib.hid (fun o => (Below.refl w.heap.size w).alloc (Nat.le_refl _) o)
  go_enter Tryd.func31, Tryd.ntmps31
  go_wp2
  go_ret
  exact ⟨rfl, HB.out _⟩
set_option maxHeartbeats 1600000 in
set_option maxRecDepth 100000 in
theorem verPrerelease_call (n1 n2 n3 : Int) (pre mt og : ByteArray) (w : World) : Calls Tryd.prog 32 #[.agg #[.int .u64 n1, .int .u64 n2, .int .u64 n3, .string pre, .string mt, .string og]] w fun e w' => e = .returned (.string pre) ∧ Below w.heap.size w w' := by
  have HB := Lib.hid (fun o => (Below.refl w.heap.size w).alloc (Nat.le_refl _) o)
  go_enter Tryd.func32, Tryd.ntmps32
  go_wp2
  go_ret
  exact ⟨rfl, HB.out _⟩
set_option maxHeartbeats 1600000 in
set_option maxRecDepth 100000 in
theorem verMetadata_call (n1 n2 n3 : Int) (pre mt og : ByteArray) (w : World) : Calls Tryd.prog 33 #[.agg #[.int .u64 n1, .int .u64 n2, .int .u64 n3, .string pre, .string mt, .string og]] w fun e w' => e = .returned (.string mt) ∧ Below w.heap.size w w' := by
  have HB := Lib.hid (fun o => (Below.refl w.heap.size w).alloc (Nat.le_refl _) o)
  go_enter Tryd.func33, Tryd.ntmps33
  go_wp2
  go_ret
  exact ⟨rfl, HB.out _⟩
set_option maxHeartbeats 1600000 in
set_option maxRecDepth 100000 in
theorem implSemver_call {s : ByteArray} {a b c m : Nat} {n1 n2 n3 : Int} {pre mt : ByteArray} (h : Form s a b c m n1 n2 n3 pre mt) (w : World) :
    Calls Tryd.prog 11 #[.string s] w fun e w' => e = .returned (.tuple #[.int .u64 n1, .int .u64 n2, .int .u64 n3, .string pre, .string mt, .bool true]) ∧ Below w.heap.size w w' := by
  have HC := Lib.hid (newVersion_call h w)
  clear h
  go_enter Tryd.func11, Tryd.ntmps11
  go_wp2_with fail
  refine HC.out.mono ?_
  rintro e w1 ⟨q, rfl, hq, hk, hb⟩
  clear hq HC
  go_upto_region 4 with fail
  have HK1 := Lib.hid (show w1.drew.heap[q]? = some (.cells (verCells n1 n2 n3 pre mt s) 69 (0, 0)) from hk)
  have HB1 := Lib.hid (show Below w.heap.size w w1.drew from hb.drew)
  clear hk hb
  refine start_ (n := 26) (ds := []) (S := fun w' => w'.heap[q]? = some (.cells (verCells n1 n2 n3 pre mt s) 69 (0, 0))) #[false, false, false, false, false, false, false, false, false, false, false, false, false, false, false, false, false, false, false, false, false, false, false, false, false, false] (by kernel_rfl) rfl rfl (HK1.out) (fun hHeld => ?_)
  generalize w1.drew = v0 at *
  refine pure_ (i := 0) (N := some 17) (v := ?_) (a' := ?_) #[true, false, false, false, false, false, false, false, false, false, false, false, false, false, false, false, false, false, false, false, false, false, false, false, false, false] rfl rfl (by kernel_rfl) (fun _ _ _ h => h) (Or.inl ⟨by rfl, ?_⟩) ?_ ?_
  rotate_left; (intro w'; go_simp; with_reducible rfl)
  rotate_left; (go_frame; rfl)
  refine pure_ (i := 1) (N := some 18) (v := ?_) (a' := ?_) #[true, true, false, false, false, false, false, false, false, false, false, false, false, false, false, false, false, false, false, false, false, false, false, false, false, false] rfl rfl (by kernel_rfl) (fun _ _ _ h => h) (Or.inl ⟨by rfl, ?_⟩) ?_ ?_
  rotate_left; (intro w'; go_simp; with_reducible rfl)
  rotate_left; (go_frame; rfl)
  refine pure_ (i := 4) (N := some 21) (v := ?_) (a' := ?_) #[true, true, false, false, true, false, false, false, false, false, false, false, false, false, false, false, false, false, false, false, false, false, false, false, false, false] rfl rfl (by kernel_rfl) (fun _ _ _ h => h) (Or.inl ⟨by rfl, ?_⟩) ?_ ?_
  rotate_left; (intro w'; go_simp; with_reducible rfl)
  rotate_left; (go_frame; rfl)
  refine pure_ (i := 5) (N := some 22) (v := ?_) (a' := ?_) #[true, true, false, false, true, true, false, false, false, false, false, false, false, false, false, false, false, false, false, false, false, false, false, false, false, false] rfl rfl (by kernel_rfl) (fun _ _ _ h => h) (Or.inl ⟨by rfl, ?_⟩) ?_ ?_
  rotate_left; (intro w'; go_simp; with_reducible rfl)
  rotate_left; (go_frame; rfl)
  refine pure_ (i := 8) (N := some 25) (v := ?_) (a' := ?_) #[true, true, false, false, true, true, false, false, true, false, false, false, false, false, false, false, false, false, false, false, false, false, false, false, false, false] rfl rfl (by kernel_rfl) (fun _ _ _ h => h) (Or.inl ⟨by rfl, ?_⟩) ?_ ?_
  rotate_left; (intro w'; go_simp; with_reducible rfl)
  rotate_left; (go_frame; rfl)
  refine pure_ (i := 9) (N := some 26) (v := ?_) (a' := ?_) #[true, true, false, false, true, true, false, false, true, true, false, false, false, false, false, false, false, false, false, false, false, false, false, false, false, false] rfl rfl (by kernel_rfl) (fun _ _ _ h => h) (Or.inl ⟨by rfl, ?_⟩) ?_ ?_
  rotate_left; (intro w'; go_simp; with_reducible rfl)
  rotate_left; (go_frame; rfl)
  refine pure_ (i := 12) (N := some 29) (v := ?_) (a' := ?_) #[true, true, false, false, true, true, false, false, true, true, false, false, true, false, false, false, false, false, false, false, false, false, false, false, false, false] rfl rfl (by kernel_rfl) (fun _ _ _ h => h) (Or.inl ⟨by rfl, ?_⟩) ?_ ?_
  rotate_left; (intro w'; go_simp; with_reducible rfl)
  rotate_left; (go_frame; rfl)
  refine pure_ (i := 13) (N := some 30) (v := ?_) (a' := ?_) #[true, true, false, false, true, true, false, false, true, true, false, false, true, true, false, false, false, false, false, false, false, false, false, false, false, false] rfl rfl (by kernel_rfl) (fun _ _ _ h => h) (Or.inl ⟨by rfl, ?_⟩) ?_ ?_
  rotate_left; (intro w'; go_simp; with_reducible rfl)
  rotate_left; (go_frame; rfl)
  refine pure_ (i := 16) (N := some 33) (v := ?_) (a' := ?_) #[true, true, false, false, true, true, false, false, true, true, false, false, true, true, false, false, true, false, false, false, false, false, false, false, false, false] rfl rfl (by kernel_rfl) (fun _ _ _ h => h) (Or.inl ⟨by rfl, ?_⟩) ?_ ?_
  rotate_left; (intro w'; go_simp; with_reducible rfl)
  rotate_left; (go_frame; rfl)
  refine pure_ (i := 17) (N := some 34) (v := ?_) (a' := ?_) #[true, true, false, false, true, true, false, false, true, true, false, false, true, true, false, false, true, true, false, false, false, false, false, false, false, false] rfl rfl (by kernel_rfl) (fun _ _ _ h => h) (Or.inl ⟨by rfl, ?_⟩) ?_ ?_
  rotate_left; (intro w'; go_simp; with_reducible rfl)
  rotate_left; (go_frame; rfl)
  refine take_ (i := 2) (N := some 19) (v := ?_) (a' := ?_) #[true, true, true, false, true, true, false, false, true, true, false, false, true, true, false, false, true, true, false, false, false, false, false, false, false, false] rfl rfl (by kernel_rfl) (fun _ _ _ h => h) (Or.inl ⟨by rfl, ?_⟩) hHeld ?_ ?_
  rotate_left
  · intro w' hS
    have y0 := blk_cell hS 0
    have y1 := blk_cell hS 1
    have y2 := blk_cell hS 2
    have y3 := blk_cell hS 3
    have y4 := blk_cell hS 4
    have y5 := blk_cell hS 5
    simp only [verCells] at y0 y1 y2 y3 y4 y5
    clear hS
    go_simp
    with_reducible rfl
  rotate_left; (go_frame; rfl)
  refine take_ (i := 6) (N := some 23) (v := ?_) (a' := ?_) #[true, true, true, false, true, true, true, false, true, true, false, false, true, true, false, false, true, true, false, false, false, false, false, false, false, false] rfl rfl (by kernel_rfl) (fun _ _ _ h => h) (Or.inl ⟨by rfl, ?_⟩) hHeld ?_ ?_
  rotate_left
  · intro w' hS
    have y0 := blk_cell hS 0
    have y1 := blk_cell hS 1
    have y2 := blk_cell hS 2
    have y3 := blk_cell hS 3
    have y4 := blk_cell hS 4
    have y5 := blk_cell hS 5
    simp only [verCells] at y0 y1 y2 y3 y4 y5
    clear hS
    go_simp
    with_reducible rfl
  rotate_left; (go_frame; rfl)
  refine take_ (i := 10) (N := some 27) (v := ?_) (a' := ?_) #[true, true, true, false, true, true, true, false, true, true, true, false, true, true, false, false, true, true, false, false, false, false, false, false, false, false] rfl rfl (by kernel_rfl) (fun _ _ _ h => h) (Or.inl ⟨by rfl, ?_⟩) hHeld ?_ ?_
  rotate_left
  · intro w' hS
    have y0 := blk_cell hS 0
    have y1 := blk_cell hS 1
    have y2 := blk_cell hS 2
    have y3 := blk_cell hS 3
    have y4 := blk_cell hS 4
    have y5 := blk_cell hS 5
    simp only [verCells] at y0 y1 y2 y3 y4 y5
    clear hS
    go_simp
    with_reducible rfl
  rotate_left; (go_frame; rfl)
  refine take_ (i := 14) (N := some 31) (v := ?_) (a' := ?_) #[true, true, true, false, true, true, true, false, true, true, true, false, true, true, true, false, true, true, false, false, false, false, false, false, false, false] rfl rfl (by kernel_rfl) (fun _ _ _ h => h) (Or.inl ⟨by rfl, ?_⟩) hHeld ?_ ?_
  rotate_left
  · intro w' hS
    have y0 := blk_cell hS 0
    have y1 := blk_cell hS 1
    have y2 := blk_cell hS 2
    have y3 := blk_cell hS 3
    have y4 := blk_cell hS 4
    have y5 := blk_cell hS 5
    simp only [verCells] at y0 y1 y2 y3 y4 y5
    clear hS
    go_simp
    with_reducible rfl
  rotate_left; (go_frame; rfl)
  refine take_ (i := 18) (N := some 35) (v := ?_) (a' := ?_) #[true, true, true, false, true, true, true, false, true, true, true, false, true, true, true, false, true, true, true, false, false, false, false, false, false, false] rfl rfl (by kernel_rfl) (fun _ _ _ h => h) (Or.inl ⟨by rfl, ?_⟩) hHeld ?_ ?_
  rotate_left
  · intro w' hS
    have y0 := blk_cell hS 0
    have y1 := blk_cell hS 1
    have y2 := blk_cell hS 2
    have y3 := blk_cell hS 3
    have y4 := blk_cell hS 4
    have y5 := blk_cell hS 5
    simp only [verCells] at y0 y1 y2 y3 y4 y5
    clear hS
    go_simp
    with_reducible rfl
  rotate_left; (go_frame; rfl)
  refine one_ (i := 3) (N := some 20) #[true, true, true, true, true, true, true, false, true, true, true, false, true, true, true, false, true, true, true, false, false, false, false, false, false, false] rfl rfl (by kernel_rfl) (by decide) (fun K hK => ?_)
  refine goes_ Tryd.func29 (by kernel_rfl) rfl #[.agg #[.int .u64 n1, .int .u64 n2, .int .u64 n3, .string pre, .string mt, .string s]] (by rfl) rfl rfl (by (try simp only [List.map_toArray, List.map_cons, List.map_nil]); first | done | rfl) ?_
  refine (verMajor_call n1 n2 n3 pre mt s v0).mono ?_
  rintro e v1 ⟨rfl, hb⟩
  have HK2 := Lib.hid (blk_below HK1.out hb)
  have HB2 := Lib.hid (HB1.out.trans (hb.mono HB1.out.size))
  clear hb HK1 HB1
  refine ⟨_, rfl, ?_⟩
  clear hHeld
  refine hK.out _ _ (HK2.out) (fun hHeld => ?_)
  clear hK K
  refine norm_ (a' := ?_) ?_ ?_
  rotate_left
  · show Act.put _ (some 20) _ = _
    go_frame
    rfl
  refine one_ (i := 7) (N := some 24) #[true, true, true, true, true, true, true, true, true, true, true, false, true, true, true, false, true, true, true, false, false, false, false, false, false, false] rfl rfl (by kernel_rfl) (by decide) (fun K hK => ?_)
  refine goes_ Tryd.func30 (by kernel_rfl) rfl #[.agg #[.int .u64 n1, .int .u64 n2, .int .u64 n3, .string pre, .string mt, .string s]] (by rfl) rfl rfl (by (try simp only [List.map_toArray, List.map_cons, List.map_nil]); first | done | rfl) ?_
  refine (verMinor_call n1 n2 n3 pre mt s v1).mono ?_
  rintro e v2 ⟨rfl, hb⟩
  have HK3 := Lib.hid (blk_below HK2.out hb)
  have HB3 := Lib.hid (HB2.out.trans (hb.mono HB2.out.size))
  clear hb HK2 HB2
  refine ⟨_, rfl, ?_⟩
  clear hHeld
  refine hK.out _ _ (HK3.out) (fun hHeld => ?_)
  clear hK K
  refine norm_ (a' := ?_) ?_ ?_
  rotate_left
  · show Act.put _ (some 24) _ = _
    go_frame
    rfl
  refine one_ (i := 11) (N := some 28) #[true, true, true, true, true, true, true, true, true, true, true, true, true, true, true, false, true, true, true, false, false, false, false, false, false, false] rfl rfl (by kernel_rfl) (by decide) (fun K hK => ?_)
  refine goes_ Tryd.func31 (by kernel_rfl) rfl #[.agg #[.int .u64 n1, .int .u64 n2, .int .u64 n3, .string pre, .string mt, .string s]] (by rfl) rfl rfl (by (try simp only [List.map_toArray, List.map_cons, List.map_nil]); first | done | rfl) ?_
  refine (verPatch_call n1 n2 n3 pre mt s v2).mono ?_
  rintro e v3 ⟨rfl, hb⟩
  have HK4 := Lib.hid (blk_below HK3.out hb)
  have HB4 := Lib.hid (HB3.out.trans (hb.mono HB3.out.size))
  clear hb HK3 HB3
  refine ⟨_, rfl, ?_⟩
  clear hHeld
  refine hK.out _ _ (HK4.out) (fun hHeld => ?_)
  clear hK K
  refine norm_ (a' := ?_) ?_ ?_
  rotate_left
  · show Act.put _ (some 28) _ = _
    go_frame
    rfl
  refine one_ (i := 15) (N := some 32) #[true, true, true, true, true, true, true, true, true, true, true, true, true, true, true, true, true, true, true, false, false, false, false, false, false, false] rfl rfl (by kernel_rfl) (by decide) (fun K hK => ?_)
  refine goes_ Tryd.func32 (by kernel_rfl) rfl #[.agg #[.int .u64 n1, .int .u64 n2, .int .u64 n3, .string pre, .string mt, .string s]] (by rfl) rfl rfl (by (try simp only [List.map_toArray, List.map_cons, List.map_nil]); first | done | rfl) ?_
  refine (verPrerelease_call n1 n2 n3 pre mt s v3).mono ?_
  rintro e v4 ⟨rfl, hb⟩
  have HK5 := Lib.hid (blk_below HK4.out hb)
  have HB5 := Lib.hid (HB4.out.trans (hb.mono HB4.out.size))
  clear hb HK4 HB4
  refine ⟨_, rfl, ?_⟩
  clear hHeld
  refine hK.out _ _ (HK5.out) (fun hHeld => ?_)
  clear hK K
  refine norm_ (a' := ?_) ?_ ?_
  rotate_left
  · show Act.put _ (some 32) _ = _
    go_frame
    rfl
  refine one_ (i := 19) (N := some 36) #[true, true, true, true, true, true, true, true, true, true, true, true, true, true, true, true, true, true, true, true, false, false, false, false, false, false] rfl rfl (by kernel_rfl) (by decide) (fun K hK => ?_)
  refine goes_ Tryd.func33 (by kernel_rfl) rfl #[.agg #[.int .u64 n1, .int .u64 n2, .int .u64 n3, .string pre, .string mt, .string s]] (by rfl) rfl rfl (by (try simp only [List.map_toArray, List.map_cons, List.map_nil]); first | done | rfl) ?_
  refine (verMetadata_call n1 n2 n3 pre mt s v4).mono ?_
  rintro e v5 ⟨rfl, hb⟩
  have HK6 := Lib.hid (blk_below HK5.out hb)
  have HB6 := Lib.hid (HB5.out.trans (hb.mono HB5.out.size))
  clear hb HK5 HB5
  refine ⟨_, rfl, ?_⟩
  clear hHeld
  refine hK.out _ _ (HK6.out) (fun hHeld => ?_)
  clear hK K
  refine norm_ (a' := ?_) ?_ ?_
  rotate_left
  · show Act.put _ (some 36) _ = _
    go_frame
    rfl
  refine pure_ (i := 20) (N := some 2) (v := ?_) (a' := ?_) #[true, true, true, true, true, true, true, true, true, true, true, true, true, true, true, true, true, true, true, true, true, false, false, false, false, false] rfl rfl (by kernel_rfl) (fun _ _ _ h => h) (Or.inl ⟨by rfl, ?_⟩) ?_ ?_
  rotate_left; (intro w'; go_simp; with_reducible rfl)
  rotate_left; (go_frame; rfl)
  refine pure_ (i := 21) (N := some 3) (v := ?_) (a' := ?_) #[true, true, true, true, true, true, true, true, true, true, true, true, true, true, true, true, true, true, true, true, true, true, false, false, false, false] rfl rfl (by kernel_rfl) (fun _ _ _ h => h) (Or.inl ⟨by rfl, ?_⟩) ?_ ?_
  rotate_left; (intro w'; go_simp; with_reducible rfl)
  rotate_left; (go_frame; rfl)
  refine pure_ (i := 22) (N := some 4) (v := ?_) (a' := ?_) #[true, true, true, true, true, true, true, true, true, true, true, true, true, true, true, true, true, true, true, true, true, true, true, false, false, false] rfl rfl (by kernel_rfl) (fun _ _ _ h => h) (Or.inl ⟨by rfl, ?_⟩) ?_ ?_
  rotate_left; (intro w'; go_simp; with_reducible rfl)
  rotate_left; (go_frame; rfl)
  refine pure_ (i := 23) (N := some 5) (v := ?_) (a' := ?_) #[true, true, true, true, true, true, true, true, true, true, true, true, true, true, true, true, true, true, true, true, true, true, true, true, false, false] rfl rfl (by kernel_rfl) (fun _ _ _ h => h) (Or.inl ⟨by rfl, ?_⟩) ?_ ?_
  rotate_left; (intro w'; go_simp; with_reducible rfl)
  rotate_left; (go_frame; rfl)
  refine pure_ (i := 24) (N := some 6) (v := ?_) (a' := ?_) #[true, true, true, true, true, true, true, true, true, true, true, true, true, true, true, true, true, true, true, true, true, true, true, true, true, false] rfl rfl (by kernel_rfl) (fun _ _ _ h => h) (Or.inl ⟨by rfl, ?_⟩) ?_ ?_
  rotate_left; (intro w'; go_simp; with_reducible rfl)
  rotate_left; (go_frame; rfl)
  refine pure_ (i := 25) (N := some 7) (v := ?_) (a' := ?_) #[true, true, true, true, true, true, true, true, true, true, true, true, true, true, true, true, true, true, true, true, true, true, true, true, true, true] rfl rfl (by kernel_rfl) (fun _ _ _ h => h) (Or.inl ⟨by rfl, ?_⟩) ?_ ?_
  rotate_left; (intro w'; go_simp; with_reducible rfl)
  rotate_left; (go_frame; rfl)
  refine done_ (by kernel_rfl) ?_
  go_wp2
  (try simp only [Exit.inBlock, Exit.then]); refine bodyPost_ret (results_tmp6 rfl _ _ _) rfl ?_
  exact ⟨rfl, HB6.out⟩
set_option maxHeartbeats 1600000 in
set_option maxRecDepth 100000 in
theorem fnSemver (s : ByteArray) (w : World) (hs0 : s.size ≤ 140737488351232) :
    Calls Tryd.prog 3 #[.string s] w fun e w' => e = .returned (.bool true) ∧ Below w.heap.size w w' := by
  have HB := Lib.hid (Below.refl w.heap.size w)
  by_cases c0 : 2147483647 < (s.size : Int)
  · have d0 : decide (2147483647 < (s.size : Int)) = true := decide_eq_true c0
    go_enter Tryd.func3, Tryd.ntmps3
    go_wp2
    go_ret
    exact ⟨rfl, HB.out⟩
  have d0 : decide (2147483647 < (s.size : Int)) = false := decide_eq_false c0
  obtain ⟨⟨n1, n2, n3, pre, mt, ok⟩, ⟨K, hK⟩, hf⟩ := parse_ev s
  have HP := Lib.hid (spec_ParseVersion.calls K s n1 n2 n3 pre mt ok w (hK K (Nat.le_refl _)))
  have HAL := Lib.hid (fun (W : World) (hW : Below w.heap.size w W) (o : Obj) => hW.alloc hW.size o)
  clear hK
  cases ok with
  | false =>
    clear hf
    go_enter Tryd.func3, Tryd.ntmps3
    go_wp2_with fail
    refine HP.out.mono ?_
    rintro e w1 ⟨rfl, hb1⟩
    have HB1 := Lib.hid (HAL.out w1 hb1)
    clear hb1 HP HAL
    go_wp2
    go_ret
    exact ⟨rfl, HB1.out _⟩
  | true =>
  obtain ⟨a, b, c, m, hform⟩ := hf rfl
  have HS := Lib.hid (fun W => implSemver_call hform W)
  clear hf hform
  go_enter Tryd.func3, Tryd.ntmps3
  go_wp2_with fail
  refine HP.out.mono ?_
  rintro e w1 ⟨rfl, hb1⟩
  have HB1 := Lib.hid (HAL.out w1 hb1)
  clear hb1 HP HAL
  go_upto_region 6 with fail
  have HB2 := Lib.hid (HB1.out (.cells #[.int .u64 n1, .int .u64 n2, .int .u64 n3, .string pre, .string mt] 24))
  have HK2 := Lib.hid (heap_alloc_new w1 (.cells #[.int .u64 n1, .int .u64 n2, .int .u64 n3, .string pre, .string mt] 24))
  clear HB1
  generalize w1.alloc (.cells #[.int .u64 n1, .int .u64 n2, .int .u64 n3, .string pre, .string mt] 24) = w2 at *
  generalize w1.heap.size = q at *
  go_wp2_with fail
  refine (HS.out _).mono ?_
  rintro e w3 ⟨rfl, hb3⟩
  have HB3 := Lib.hid (HB2.out.trans (hb3.mono HB2.out.size))
  have hk := blk_below HK2.out hb3
  have x0 : w3.cell? ⟨q, 0, none⟩ = some (.int .u64 n1) := by rw [blk_cell hk 0]; rfl
  have x1 : w3.cell? ⟨q, 1, none⟩ = some (.int .u64 n2) := by rw [blk_cell hk 1]; rfl
  have x2 : w3.cell? ⟨q, 2, none⟩ = some (.int .u64 n3) := by rw [blk_cell hk 2]; rfl
  have x3 : w3.cell? ⟨q, 3, none⟩ = some (.string pre) := by rw [blk_cell hk 3]; rfl
  have x4 : w3.cell? ⟨q, 4, none⟩ = some (.string mt) := by rw [blk_cell hk 4]; rfl
  clear hk hb3 HS HK2 HB2
  go_wp2
  go_ret
  exact ⟨rfl, HB3.out⟩
end Go.Proofs.YtlhijjfbcgconaaDoor.P
