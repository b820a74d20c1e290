-- WRITTEN by xprint.py (a program of this session, over the kit's print) out of the translation. Not trusted: Lean checks it.
import Derived.Test.YtlhijjfbcgconaaGreatDoorZPx0
import Derived.Test.YtlhijjfbcgconaaGreatDoorZPx2
import Derived.Test.YtlhijjfbcgconaaGreatDoorZPx3
namespace Go.Proofs.YtlhijjfbcgconaaGreatDoor.P
open Go.RowKit Go.Proofs.YtlhijjfbcgconaaGreatDoorW.PrintWords Go.Proofs.YtlhijjfbcgconaaGreatDoorW.PrintLast Go.Proofs.YtlhijjfbcgconaaGreatDoorW.PrintMore
attribute [local go_sem] max2_int min2_int max_two min_two max_three min_three max_four min_four run_store_float   -- for this text's walks alone
set_option linter.unusedVariables false
set_option linter.unusedSimpArgs false

/-! ### spec_ParseVersion: function 8 -/
mutual
def spec_ParseVersion.j1 : Nat → ByteArray → Int → Int → Int → ByteArray → ByteArray → Option (Int × Int × Int × ByteArray × ByteArray × Bool)
  | 0, _, _, _, _, _, _ => none
  | k + 1, x0, x103000, x103001, x103002, x103003, x103004 => (spec_number.f k x0).bind fun bt104 => (if bt104.2.2 = true then (if (bt104.2.1.size : Int) = 0 then (spec_ParseVersion.j2 k bt104.2.1 true bt104.1 x103001 x103002 x103003 x103004) else (if 0 < (bt104.2.1.size : Int) then (spec_ParseVersion.j2 k bt104.2.1 ((bt bt104.2.1 0) != 46) bt104.1 x103001 x103002 x103003 x103004) else (none))) else (spec_ParseVersion.j2 k bt104.2.1 true bt104.1 x103001 x103002 x103003 x103004))
def spec_ParseVersion.j2 : Nat → ByteArray → Bool → Int → Int → Int → ByteArray → ByteArray → Option (Int × Int × Int × ByteArray × ByteArray × Bool)
  | 0, _, _, _, _, _, _, _ => none
  | k + 1, x5, x53, x103000, x103001, x103002, x103003, x103004 => if x53 = true then (some (0, 0, 0, (⟨#[]⟩ : ByteArray), (⟨#[]⟩ : ByteArray), false)) else (if 1 ≤ (x5.size : Int) then ((spec_number.f k (x5.extract 1 x5.size)).bind fun bt107 => (if bt107.2.2 = true then (if (bt107.2.1.size : Int) = 0 then (spec_ParseVersion.j3 k bt107.2.1 true x103000 bt107.1 x103002 x103003 x103004) else (if 0 < (bt107.2.1.size : Int) then (spec_ParseVersion.j3 k bt107.2.1 ((bt bt107.2.1 0) != 46) x103000 bt107.1 x103002 x103003 x103004) else (none))) else (spec_ParseVersion.j3 k bt107.2.1 true x103000 bt107.1 x103002 x103003 x103004))) else (none))
def spec_ParseVersion.j3 : Nat → ByteArray → Bool → Int → Int → Int → ByteArray → ByteArray → Option (Int × Int × Int × ByteArray × ByteArray × Bool)
  | 0, _, _, _, _, _, _, _ => none
  | k + 1, x5, x74, x103000, x103001, x103002, x103003, x103004 => if x74 = true then (some (0, 0, 0, (⟨#[]⟩ : ByteArray), (⟨#[]⟩ : ByteArray), false)) else (if 1 ≤ (x5.size : Int) then ((spec_number.f k (x5.extract 1 x5.size)).bind fun bt110 => (if bt110.2.2 = true then (if (bt110.2.1.size : Int) > 0 then (if 0 < (bt110.2.1.size : Int) then (if (bt bt110.2.1 0) = 45 then (if 1 ≤ (bt110.2.1.size : Int) then ((spec_parts.f k (bt110.2.1.extract 1 bt110.2.1.size) true).bind fun t113 => (if t113 = true then (some (x103000, x103001, bt110.1, bt110.2.1.extract 1 bt110.2.1.size, x103004, true)) else (some (0, 0, 0, (⟨#[]⟩ : ByteArray), (⟨#[]⟩ : ByteArray), false)))) else (none)) else (some (0, 0, 0, (⟨#[]⟩ : ByteArray), (⟨#[]⟩ : ByteArray), false))) else (none)) else (some (x103000, x103001, bt110.1, x103003, x103004, true))) else (some (0, 0, 0, (⟨#[]⟩ : ByteArray), (⟨#[]⟩ : ByteArray), false)))) else (none))
def spec_ParseVersion.l0 : Nat → ByteArray → Int → Int → Int → Int → ByteArray → ByteArray → Option (Int × Int × Int × ByteArray × ByteArray × Bool)
  | 0, _, _, _, _, _, _, _ => none
  | k + 1, x0, x4, x103000, x103001, x103002, x103003, x103004 => if x4 < (x0.size : Int) then (if 0 ≤ x4 then (if (bt x0 x4) = 43 then (if 0 ≤ (wrap64 (x4 + 1)) then (if (wrap64 (x4 + 1)) ≤ (x0.size : Int) then (if x4 ≤ (x0.size : Int) then ((spec_parts.f k (x0.extract ((wrap64 (x4 + 1)) : Int).toNat x0.size) false).bind fun t103 => (if t103 = true then (spec_ParseVersion.j1 k (x0.extract 0 (x4 : Int).toNat) x103000 x103001 x103002 x103003 (x0.extract ((wrap64 (x4 + 1)) : Int).toNat x0.size)) else (some (0, 0, 0, (⟨#[]⟩ : ByteArray), (⟨#[]⟩ : ByteArray), false)))) else (none)) else (none)) else (none)) else (spec_ParseVersion.l0 k x0 (wrap64 (x4 + 1)) x103000 x103001 x103002 x103003 x103004)) else (none)) else (spec_ParseVersion.j1 k x0 x103000 x103001 x103002 x103003 x103004)
end
def spec_ParseVersion.f (k : Nat) (a0 : ByteArray) : Option (Int × Int × Int × ByteArray × ByteArray × Bool) := if (a0.size : Int) > 100 then (some (0, 0, 0, (⟨#[]⟩ : ByteArray), (⟨#[]⟩ : ByteArray), false)) else (spec_ParseVersion.l0 k a0 0 0 0 0 (⟨#[]⟩ : ByteArray) (⟨#[]⟩ : ByteArray))
theorem spec_ParseVersion.mono_l : ∀ k, (∀ y0 y1 y2 y3 y4 y5, LeO (spec_ParseVersion.j1 k y0 y1 y2 y3 y4 y5) (spec_ParseVersion.j1 (k + 1) y0 y1 y2 y3 y4 y5)) ∧ (∀ y0 y1 y2 y3 y4 y5 y6, LeO (spec_ParseVersion.j2 k y0 y1 y2 y3 y4 y5 y6) (spec_ParseVersion.j2 (k + 1) y0 y1 y2 y3 y4 y5 y6)) ∧ (∀ y0 y1 y2 y3 y4 y5 y6, LeO (spec_ParseVersion.j3 k y0 y1 y2 y3 y4 y5 y6) (spec_ParseVersion.j3 (k + 1) y0 y1 y2 y3 y4 y5 y6)) ∧ (∀ y0 y1 y2 y3 y4 y5 y6, LeO (spec_ParseVersion.l0 k y0 y1 y2 y3 y4 y5 y6) (spec_ParseVersion.l0 (k + 1) y0 y1 y2 y3 y4 y5 y6))
  | 0 => ⟨fun _ _ _ _ _ _ r h => by simp [spec_ParseVersion.j1] at h, fun _ _ _ _ _ _ _ r h => by simp [spec_ParseVersion.j2] at h, fun _ _ _ _ _ _ _ r h => by simp [spec_ParseVersion.j3] at h, fun _ _ _ _ _ _ _ r h => by simp [spec_ParseVersion.l0] at h⟩
  | k + 1 => by
    obtain ⟨ih0, ih1, ih2, ih3⟩ := spec_ParseVersion.mono_l k
    refine ⟨?_, ?_, ?_, ?_⟩
    · intro y0 y1 y2 y3 y4 y5
      unfold spec_ParseVersion.j1
      repeat' first
      | (with_reducible exact ih0 _ _ _ _ _ _)
      | (with_reducible exact ih1 _ _ _ _ _ _ _)
      | (with_reducible exact ih2 _ _ _ _ _ _ _)
      | (with_reducible exact ih3 _ _ _ _ _ _ _)
      | (with_reducible exact spec_number.mono _ _)
      | (with_reducible exact spec_parts.mono _ _ _)
      | (with_reducible exact LeO.refl _)
      | (with_reducible exact LeO.none _)
      | (with_reducible refine LeO.ite ?_ ?_)
      | (with_reducible refine LeO.bind ?_ (fun _ => ?_))
      | exact ih0 _ _ _ _ _ _
      | exact ih1 _ _ _ _ _ _ _
      | exact ih2 _ _ _ _ _ _ _
      | exact ih3 _ _ _ _ _ _ _
      | exact spec_number.mono _ _
      | exact spec_parts.mono _ _ _
      | exact LeO.none _
      | refine LeO.ite ?_ ?_
      | refine LeO.bind ?_ (fun _ => ?_)
    · intro y0 y1 y2 y3 y4 y5 y6
      unfold spec_ParseVersion.j2
      repeat' first
      | (with_reducible exact ih0 _ _ _ _ _ _)
      | (with_reducible exact ih1 _ _ _ _ _ _ _)
      | (with_reducible exact ih2 _ _ _ _ _ _ _)
      | (with_reducible exact ih3 _ _ _ _ _ _ _)
      | (with_reducible exact spec_number.mono _ _)
      | (with_reducible exact spec_parts.mono _ _ _)
      | (with_reducible exact LeO.refl _)
      | (with_reducible exact LeO.none _)
      | (with_reducible refine LeO.ite ?_ ?_)
      | (with_reducible refine LeO.bind ?_ (fun _ => ?_))
      | exact ih0 _ _ _ _ _ _
      | exact ih1 _ _ _ _ _ _ _
      | exact ih2 _ _ _ _ _ _ _
      | exact ih3 _ _ _ _ _ _ _
      | exact spec_number.mono _ _
      | exact spec_parts.mono _ _ _
      | exact LeO.none _
      | refine LeO.ite ?_ ?_
      | refine LeO.bind ?_ (fun _ => ?_)
    · intro y0 y1 y2 y3 y4 y5 y6
      unfold spec_ParseVersion.j3
      repeat' first
      | (with_reducible exact ih0 _ _ _ _ _ _)
      | (with_reducible exact ih1 _ _ _ _ _ _ _)
      | (with_reducible exact ih2 _ _ _ _ _ _ _)
      | (with_reducible exact ih3 _ _ _ _ _ _ _)
      | (with_reducible exact spec_number.mono _ _)
      | (with_reducible exact spec_parts.mono _ _ _)
      | (with_reducible exact LeO.refl _)
      | (with_reducible exact LeO.none _)
      | (with_reducible refine LeO.ite ?_ ?_)
      | (with_reducible refine LeO.bind ?_ (fun _ => ?_))
      | exact ih0 _ _ _ _ _ _
      | exact ih1 _ _ _ _ _ _ _
      | exact ih2 _ _ _ _ _ _ _
      | exact ih3 _ _ _ _ _ _ _
      | exact spec_number.mono _ _
      | exact spec_parts.mono _ _ _
      | exact LeO.none _
      | refine LeO.ite ?_ ?_
      | refine LeO.bind ?_ (fun _ => ?_)
    · intro y0 y1 y2 y3 y4 y5 y6
      unfold spec_ParseVersion.l0
      repeat' first
      | (with_reducible exact ih0 _ _ _ _ _ _)
      | (with_reducible exact ih1 _ _ _ _ _ _ _)
      | (with_reducible exact ih2 _ _ _ _ _ _ _)
      | (with_reducible exact ih3 _ _ _ _ _ _ _)
      | (with_reducible exact spec_number.mono _ _)
      | (with_reducible exact spec_parts.mono _ _ _)
      | (with_reducible exact LeO.refl _)
      | (with_reducible exact LeO.none _)
      | (with_reducible refine LeO.ite ?_ ?_)
      | (with_reducible refine LeO.bind ?_ (fun _ => ?_))
      | exact ih0 _ _ _ _ _ _
      | exact ih1 _ _ _ _ _ _ _
      | exact ih2 _ _ _ _ _ _ _
      | exact ih3 _ _ _ _ _ _ _
      | exact spec_number.mono _ _
      | exact spec_parts.mono _ _ _
      | exact LeO.none _
      | refine LeO.ite ?_ ?_
      | refine LeO.bind ?_ (fun _ => ?_)
theorem spec_ParseVersion.mono : ∀ a0 k, LeO (spec_ParseVersion.f k a0) (spec_ParseVersion.f (k + 1) a0) := by
  intro a0 k
  obtain ⟨ih0, ih1, ih2, ih3⟩ := spec_ParseVersion.mono_l k
  unfold spec_ParseVersion.f
  repeat' first
      | (with_reducible exact ih0 _ _ _ _ _ _)
      | (with_reducible exact ih1 _ _ _ _ _ _ _)
      | (with_reducible exact ih2 _ _ _ _ _ _ _)
      | (with_reducible exact ih3 _ _ _ _ _ _ _)
      | (with_reducible exact spec_number.mono _ _)
      | (with_reducible exact spec_parts.mono _ _ _)
      | (with_reducible exact LeO.refl _)
      | (with_reducible exact LeO.none _)
      | (with_reducible refine LeO.ite ?_ ?_)
      | (with_reducible refine LeO.bind ?_ (fun _ => ?_))
      | exact ih0 _ _ _ _ _ _
      | exact ih1 _ _ _ _ _ _ _
      | exact ih2 _ _ _ _ _ _ _
      | exact ih3 _ _ _ _ _ _ _
      | exact spec_number.mono _ _
      | exact spec_parts.mono _ _ _
      | exact LeO.none _
      | refine LeO.ite ?_ ?_
      | refine LeO.bind ?_ (fun _ => ?_)
def spec_ParseVersion.T7 : Bool × List (List Nat × List Nat) := (true, [([], []), ([], []), ([1], [1]), ([0, 2], [0, 2]), ([], []), ([], []), ([4, 5], [4, 5]), ([0, 1, 2, 3], []), ([7, 3, 0, 1, 2, 3], [3, 7]), ([6, 8, 0, 1, 2, 3, 4, 5, 6, 7, 8], [0, 4, 6])])
def spec_ParseVersion.B7 : List Nat := [0, 0, 2, 7, 0, 0, 48, 15, 143, 511]
theorem spec_ParseVersion.tab7 : rtab .any (opsOf Tryz.f8 7) = spec_ParseVersion.T7 := by kernel_rfl
theorem spec_ParseVersion.bits7 : waitsOk spec_ParseVersion.T7.2 spec_ParseVersion.B7 = true := by kernel_rfl
set_option maxHeartbeats 8000000 in
set_option maxRecDepth 100000 in
theorem spec_ParseVersion.calls (k : Nat) (a0 : ByteArray) (r1 : Int) (r2 : Int) (r3 : Int) (r4 : ByteArray) (r5 : ByteArray) (r6 : Bool) (w : World) (h : spec_ParseVersion.f k a0 = some (r1, r2, r3, r4, r5, r6)) :
    Calls Tryz.prog 8 #[.string a0] w fun e w' => e = .returned (.tuple #[.agg #[.int .u64 r1, .int .u64 r2, .int .u64 r3, .string r4, .string r5], .bool r6]) ∧ Below w.heap.size w w' := by
  have hu24 := Tryz.underlying24
  have HB := Aside0.mk (Below.refl w.heap.size w)
  have H : (if (a0.size : Int) > 100 then (some (0, 0, 0, (⟨#[]⟩ : ByteArray), (⟨#[]⟩ : ByteArray), false)) else (spec_ParseVersion.l0 k a0 0 0 0 0 (⟨#[]⟩ : ByteArray) (⟨#[]⟩ : ByteArray))) = some (r1, r2, r3, r4, r5, r6) := h
  clear h
  by_cases c2 : (a0.size : Int) > 100
  · rw [if_pos c2] at H
    have c2b0 : decide (100 < (a0.size : Int)) = true := decide_eq_true c2
    have c2b1 : decide (100 < a0.size) = true := decide_eq_true (by omega)
    clear c2
    as_aux_lemma =>
      simp only [Option.some.injEq, Prod.mk.injEq] at H
      obtain ⟨rfl, rfl, rfl, rfl, rfl, rfl⟩ := H
      go_enter Tryz.func8, Tryz.ntmps8
      go_wp2_with (first | ((with_reducible refine gate_dst (N := 2) rfl ?_); (try (refine gate_guard (by rfl) ?_; dsimp only)); refine box_event ?hg (N := 2) ?hd (cs := #[.int .u64 0, .int .u64 0, .int .u64 0, .string (⟨#[]⟩ : ByteArray), .string (⟨#[]⟩ : ByteArray)]) (t := 24) ?hr ?_; (case hd => rfl); (case hg => rfl); (case hr => first | (go_simp; done) | (go_simp; rfl)); intro gb102 hg w3 hbox hb; have n0_ := Aside0.mk (below_step (by repeat (first | (with_reducible first | exact HB.out | apply below_alloc | apply pw_below_drewN | apply below_drew1) | exact HB.out)) hb); have n1_ := Aside0.mk (hbox); have n2_ := Aside0.mk ((by rw [hg]; exact (below_size (by repeat (first | (with_reducible first | exact HB.out | apply below_alloc | apply pw_below_drewN | apply below_drew1) | exact HB.out))) : w.heap.size ≤ gb102)); have n3_ := Aside0.mk ((by rw [hg]; exact (below_size (by repeat (first | (with_reducible first | exact HB.out | apply below_alloc | apply pw_below_drewN | apply below_drew1) | exact HB.out))) : w.heap.size ≤ gb102)); clear HB; have HB := n0_; have BK102 := n1_; have GW102 := n2_; have GE102 := n3_; clear n0_ n1_ n2_ n3_; clear hb hbox hg; have hcz4_0 : w3.cell? ⟨gb102, 0, none⟩ = some (.int .u64 0) := (blk_cell BK102.out 0).trans rfl; have hcz4_1 : w3.cell? ⟨gb102, 1, none⟩ = some (.int .u64 0) := (blk_cell BK102.out 1).trans rfl; have hcz4_2 : w3.cell? ⟨gb102, 2, none⟩ = some (.int .u64 0) := (blk_cell BK102.out 2).trans rfl; have hcz4_3 : w3.cell? ⟨gb102, 3, none⟩ = some (.string (⟨#[]⟩ : ByteArray)) := (blk_cell BK102.out 3).trans rfl; have hcz4_4 : w3.cell? ⟨gb102, 4, none⟩ = some (.string (⟨#[]⟩ : ByteArray)) := (blk_cell BK102.out 4).trans rfl; have hfz4_0 := blk_frozen BK102.out 0; have hfz4_1 := blk_frozen BK102.out 1; have hfz4_2 := blk_frozen BK102.out 2; have hfz4_3 := blk_frozen BK102.out 3; have hfz4_4 := blk_frozen BK102.out 4))
      refine bodyPost_ret (results_ct rfl _ _ gb102 24 #[.int .u64 0, .int .u64 0, .int .u64 0, .string (⟨#[]⟩ : ByteArray), .string (⟨#[]⟩ : ByteArray)] (0, 0) _ rfl (by (with_reducible repeat (first | refine blk_drewN ?_ _ | refine blk_drew ?_ | refine blk_alloc ?_ _)); refine blk_put (cs := #[.int .u64 0, .int .u64 0, .int .u64 0, .string (⟨#[]⟩ : ByteArray), .string (⟨#[]⟩ : ByteArray)]) ?_ 4 _ rfl; (with_reducible repeat (first | refine blk_drewN ?_ _ | refine blk_drew ?_ | refine blk_alloc ?_ _)); refine blk_put (cs := #[.int .u64 0, .int .u64 0, .int .u64 0, .string (⟨#[]⟩ : ByteArray), .string (⟨#[]⟩ : ByteArray)]) ?_ 3 _ rfl; (with_reducible repeat (first | refine blk_drewN ?_ _ | refine blk_drew ?_ | refine blk_alloc ?_ _)); refine blk_put (cs := #[.int .u64 0, .int .u64 0, .int .u64 0, .string (⟨#[]⟩ : ByteArray), .string (⟨#[]⟩ : ByteArray)]) ?_ 2 _ rfl; (with_reducible repeat (first | refine blk_drewN ?_ _ | refine blk_drew ?_ | refine blk_alloc ?_ _)); refine blk_put (cs := #[.int .u64 0, .int .u64 0, .int .u64 0, .string (⟨#[]⟩ : ByteArray), .string (⟨#[]⟩ : ByteArray)]) ?_ 1 _ rfl; (with_reducible repeat (first | refine blk_drewN ?_ _ | refine blk_drew ?_ | refine blk_alloc ?_ _)); refine blk_put (cs := #[.int .u64 0, .int .u64 0, .int .u64 0, .string (⟨#[]⟩ : ByteArray), .string (⟨#[]⟩ : ByteArray)]) ?_ 0 _ rfl; (with_reducible repeat (first | refine blk_drewN ?_ _ | refine blk_drew ?_ | refine blk_alloc ?_ _)); exact BK102.out) Tryz.underlying24 rfl (by kernel_rfl)) rfl ?_
      exact ⟨by first | rfl | (simp [errW_none, errW_some] <;> rfl) | (simp [*, errW_none, errW_some] <;> rfl), by repeat (first | (with_reducible first | exact HB.out | apply below_alloc | apply pw_below_drewN | apply below_drew1 | refine below_set ?_ GE102.out) | exact HB.out)⟩
  · rw [if_neg c2] at H
    have c2b0 : decide (100 < (a0.size : Int)) = false := decide_eq_false c2
    have c2b1 : decide (100 < a0.size) = false := decide_eq_false (by omega)
    clear c2
    have HC5 := Aside0.mk H
    clear H
    go_enter Tryz.func8, Tryz.ntmps8
    go_upto_block 0 with (first | ((with_reducible refine gate_dst (N := 2) rfl ?_); (try (refine gate_guard (by rfl) ?_; dsimp only)); refine box_event ?hg (N := 2) ?hd (cs := #[.int .u64 0, .int .u64 0, .int .u64 0, .string (⟨#[]⟩ : ByteArray), .string (⟨#[]⟩ : ByteArray)]) (t := 24) ?hr ?_; (case hd => rfl); (case hg => rfl); (case hr => first | (go_simp; done) | (go_simp; rfl)); intro gb102 hg w6 hbox hb; have n0_ := Aside0.mk (below_step (by repeat (first | (with_reducible first | exact HB.out | apply below_alloc | apply pw_below_drewN | apply below_drew1) | exact HB.out)) hb); have n1_ := Aside0.mk (hbox); have n2_ := Aside0.mk ((by rw [hg]; exact (below_size (by repeat (first | (with_reducible first | exact HB.out | apply below_alloc | apply pw_below_drewN | apply below_drew1) | exact HB.out))) : w.heap.size ≤ gb102)); have n3_ := Aside0.mk ((by rw [hg]; exact (below_size (by repeat (first | (with_reducible first | exact HB.out | apply below_alloc | apply pw_below_drewN | apply below_drew1) | exact HB.out))) : w.heap.size ≤ gb102)); clear HB; have HB := n0_; have BK102 := n1_; have GW102 := n2_; have GE102 := n3_; clear n0_ n1_ n2_ n3_; clear hb hbox hg))
    (try simp only [Act.put, List.setIfInBounds_toArray, List.set_cons_zero, List.set_cons_succ])
    go_cut [0] (fun v0 wc => ∃ (kq : Nat) (x0_4 : ByteArray) (x103000_4 : Int) (x103001_4 : Int) (x103002_4 : Int) (x103003_4 : ByteArray) (x103004_4 : ByteArray), v0 = .string x0_4 ∧ Aside0 (spec_ParseVersion.j1 kq x0_4 x103000_4 x103001_4 x103002_4 x103003_4 x103004_4 = some (r1, r2, r3, r4, r5, r6)) ∧ Aside0 (kq ≤ k) ∧ Aside0 (wc.heap[gb102]? = some (.cells #[.int .u64 x103000_4, .int .u64 x103001_4, .int .u64 x103002_4, .string x103003_4, .string x103004_4] 24 (0, 0))) ∧ Aside0 (Below w.heap.size w wc))
    case first =>
      have H := HC5.out
      clear HC5
      have H' := Aside0.mk H
      clear H
      go_wp2
      go_loopg [0, 4] k (fun kq v0 v4 w' => ∃ (x0_1 : ByteArray) (x4_1 : Int) (x103000_1 : Int) (x103001_1 : Int) (x103002_1 : Int) (x103003_1 : ByteArray) (x103004_1 : ByteArray), v0 = .string x0_1 ∧ v4 = .int .i64 x4_1 ∧ Aside0 (spec_ParseVersion.l0 kq x0_1 x4_1 x103000_1 x103001_1 x103002_1 x103003_1 x103004_1 = some (r1, r2, r3, r4, r5, r6)) ∧ Aside0 (kq ≤ k) ∧ Aside0 (w'.heap[gb102]? = some (.cells #[.int .u64 x103000_1, .int .u64 x103001_1, .int .u64 x103002_1, .string x103003_1, .string x103004_1] 24 (0, 0))) ∧ Aside0 (Below w.heap.size w w'))
      case atStart => exact ⟨(a0), (0), (0), (0), (0), ((⟨#[]⟩ : ByteArray)), ((⟨#[]⟩ : ByteArray)), (by first | rfl | (simp only [bytesLe_not]; done) | (simp; done) | (simp [*]; done)), (by first | rfl | (simp only [bytesLe_not]; done) | (simp; done) | (simp [*]; done)), H', ⟨Nat.le_refl _⟩, ⟨by (with_reducible repeat (first | refine blk_drewN ?_ _ | refine blk_drew ?_ | refine blk_alloc ?_ _)); exact BK102.out⟩, ⟨by repeat (first | (with_reducible first | exact HB.out | apply below_alloc | apply pw_below_drewN | apply below_drew1 | refine below_set ?_ GE102.out) | exact HB.out)⟩⟩
      case round =>
        clear H'
        try clear c2
        try clear c2b0
        try clear c2b1
        try clear p2
        try clear hcz4_0
        try clear hcz4_1
        try clear hcz4_2
        try clear hcz4_3
        try clear hcz4_4
        try clear hfz4_0
        try clear hfz4_1
        try clear hfz4_2
        try clear hfz4_3
        try clear hfz4_4
        obtain ⟨x0_1, x4_1, x103000_1, x103001_1, x103002_1, x103003_1, x103004_1, rfl, rfl, HA, HK1, BK102, HB⟩ := hrel
        cases gk with
        | zero => exact absurd HA.out (by simp [spec_ParseVersion.l0])
        | succ k1 =>
          have H := HA.out
          clear HA
          simp only [spec_ParseVersion.l0] at H
          by_cases c7 : x4_1 < (x0_1.size : Int)
          · rw [if_pos c7] at H
            have c7b0 : decide (x4_1 < (x0_1.size : Int)) = true := decide_eq_true c7
            clear c7
            (first | rw [c7b0] | (simp only [i64_w, i32_w]; rw [c7b0]) | skip)
            by_cases c8 : 0 ≤ x4_1
            · rw [if_pos c8] at H
              have c8b0 : decide (0 ≤ x4_1) = true := decide_eq_true c8
              clear c8
              by_cases c10 : (bt x0_1 x4_1) = 43
              · rw [if_pos c10] at H
                have c10b0 : ((bt x0_1 x4_1) == 43) = true := beq_iff_eq.mpr c10
                have c10b1 : ((bt x0_1 x4_1) != 43) = false := bne_eq_false_iff_eq.mpr c10
                clear c10
                obtain ⟨ji11, hji11⟩ : ∃ j_ : Int, (wrap64 (x4_1 + 1)) = j_ := ⟨_, rfl⟩
                replace H : (if 0 ≤ (ji11) then (if (ji11) ≤ (x0_1.size : Int) then (if x4_1 ≤ (x0_1.size : Int) then ((spec_parts.f k1 (x0_1.extract ((ji11) : Int).toNat x0_1.size) false).bind fun t103 => (if t103 = true then (spec_ParseVersion.j1 k1 (x0_1.extract 0 (x4_1 : Int).toNat) x103000_1 x103001_1 x103002_1 x103003_1 (x0_1.extract ((ji11) : Int).toNat x0_1.size)) else (some (0, 0, 0, (⟨#[]⟩ : ByteArray), (⟨#[]⟩ : ByteArray), false)))) else (none)) else (none)) else (none)) = some (r1, r2, r3, r4, r5, r6) := by first | (rw [hji11] at H; exact H) | (simp only [hji11] at H ⊢; exact H)
                have hji11w : (IntKind.i64.wrap (x4_1 + 1)) = ji11 := (i64_w _).trans hji11
                by_cases c12 : 0 ≤ (ji11)
                · rw [if_pos c12] at H
                  have c12b0 := eq_true c12
                  have c12b1 : decide (0 ≤ (ji11)) = true := decide_eq_true c12
                  clear c12
                  by_cases c13 : (ji11) ≤ (x0_1.size : Int)
                  · rw [if_pos c13] at H
                    have c13b0 := eq_true c13
                    have c13b1 : decide ((ji11) ≤ (x0_1.size : Int)) = true := decide_eq_true c13
                    clear c13
                    have c14b0 := eq_true (of_decide_eq_true (by first | (with_reducible assumption) | assumption) : 0 ≤ x4_1)
                    by_cases c15 : x4_1 ≤ (x0_1.size : Int)
                    · rw [if_pos c15] at H
                      have c15b0 := eq_true c15
                      have c15b1 : decide (x4_1 ≤ (x0_1.size : Int)) = true := decide_eq_true c15
                      clear c15
                      replace H := Option.bind_eq_some_iff.mp H
                      obtain ⟨t103, A160, H⟩ := H
                      replace H : (if t103 = true then (spec_ParseVersion.j1 k1 (x0_1.extract 0 (x4_1 : Int).toNat) x103000_1 x103001_1 x103002_1 x103003_1 (x0_1.extract ((ji11) : Int).toNat x0_1.size)) else (some (0, 0, 0, (⟨#[]⟩ : ByteArray), (⟨#[]⟩ : ByteArray), false))) = some (r1, r2, r3, r4, r5, r6) := H
                      have A16 := Aside0.mk A160
                      clear A160
                      by_cases c17 : t103 = true
                      · subst c17
                        have H1 : (spec_ParseVersion.j1 k1 (x0_1.extract 0 (x4_1 : Int).toNat) x103000_1 x103001_1 x103002_1 x103003_1 (x0_1.extract ((ji11) : Int).toNat x0_1.size)) = some (r1, r2, r3, r4, r5, r6) := by rw [if_pos rfl] at H; exact H
                        clear H
                        have H := H1
                        clear H1
                        as_aux_lemma =>
                          have H' := Aside0.mk H
                          clear H
                          have p9 : 0 ≤ (x4_1 : Int) := of_decide_eq_true (by first | (with_reducible assumption) | assumption)
                          have q9 : x4_1 < (x0_1.size : Int) := of_decide_eq_true (by first | (with_reducible assumption) | assumption)
                          have hx9 := bt_at x0_1 x4_1
                          replace p9 := eq_true p9
                          replace q9 := eq_true q9
                          try go_wp2
                          have n0_ := Aside0.mk (blk_drew BK102.out)
                          have n1_ := Aside0.mk (below_drew1 HB.out)
                          clear BK102
                          clear HB
                          have BK102 := n0_
                          have HB := n1_
                          clear n0_ n1_
                          refine start_ (n := 10) (S := fun w' => True) (ds := []) #[false, false, false, false, false, false, false, false, false, false] (by kernel_rfl) rfl rfl trivial (fun hHeld => ?_); refine with_tabW spec_ParseVersion.tab7 spec_ParseVersion.bits7 (fun HT_ HW_ => ?_)
                          generalize wr.drew = w18 at BK102 HB hHeld ⊢
                          refine pure_ (i := 0) (N := some 21) (v := ?_) (a' := ?_) #[true, false, false, false, false, false, false, false, false, false] rfl rfl (any_of HT_.out (by kernel_rfl)) (fun _ _ _ h => h) (Or.inl ⟨by rfl, ?_⟩) ?_ ?_
                          rotate_left
                          · intro w'
                            go_simp
                            with_reducible rfl
                          rotate_left
                          · simp only [Act.put, List.setIfInBounds_toArray, List.set_cons_zero, List.set_cons_succ, i64_w, i32_w]
                            rfl
                          refine pure_ (i := 1) (N := some 22) (v := ?_) (a' := ?_) #[true, true, false, false, false, false, false, false, false, false] rfl rfl (any_of HT_.out (by kernel_rfl)) (fun _ _ _ h => h) (Or.inl ⟨by rfl, ?_⟩) ?_ ?_
                          rotate_left
                          · intro w'
                            go_simp
                            with_reducible rfl
                          rotate_left
                          · simp only [Act.put, List.setIfInBounds_toArray, List.set_cons_zero, List.set_cons_succ, i64_w, i32_w]
                            rfl
                          refine pure_ (i := 2) (N := some 23) (v := ?_) (a' := ?_) #[true, true, true, false, false, false, false, false, false, false] rfl rfl (any_of HT_.out (by kernel_rfl)) (fun _ _ _ h => h) (Or.inl ⟨by rfl, ?_⟩) ?_ ?_
                          rotate_left
                          · intro w'
                            go_simp
                            with_reducible rfl
                          rotate_left
                          · simp only [Act.put, List.setIfInBounds_toArray, List.set_cons_zero, List.set_cons_succ, i64_w, i32_w]
                            rfl
                          refine pure_ (i := 3) (N := some 24) (v := ?_) (a' := ?_) #[true, true, true, true, false, false, false, false, false, false] rfl rfl (any_of HT_.out (by kernel_rfl)) (fun _ _ _ h => h) (Or.inl ⟨by rfl, ?_⟩) ?_ ?_
                          rotate_left
                          · intro w'
                            go_simp
                            with_reducible rfl
                          rotate_left
                          · simp only [Act.put, List.setIfInBounds_toArray, List.set_cons_zero, List.set_cons_succ, i64_w, i32_w]
                            rfl
                          refine pure_ (i := 4) (N := some 25) (v := ?_) (a' := ?_) #[true, true, true, true, true, false, false, false, false, false] rfl rfl (any_of HT_.out (by kernel_rfl)) (fun _ _ _ h => h) (Or.inl ⟨by rfl, ?_⟩) ?_ ?_
                          rotate_left
                          · intro w'
                            go_simp
                            with_reducible rfl
                          rotate_left
                          · simp only [Act.put, List.setIfInBounds_toArray, List.set_cons_zero, List.set_cons_succ, i64_w, i32_w]
                            rfl
                          refine pure_ (i := 5) (N := some 26) (v := ?_) (a' := ?_) #[true, true, true, true, true, true, false, false, false, false] rfl rfl (any_of HT_.out (by kernel_rfl)) (fun _ _ _ h => h) (Or.inl ⟨by rfl, ?_⟩) ?_ ?_
                          rotate_left
                          · intro w'
                            go_simp
                            with_reducible rfl
                          rotate_left
                          · simp only [Act.put, List.setIfInBounds_toArray, List.set_cons_zero, List.set_cons_succ, i64_w, i32_w]
                            rfl
                          refine pure_ (i := 6) (N := some 27) (v := ?_) (a' := ?_) #[true, true, true, true, true, true, true, false, false, false] rfl rfl (any_of HT_.out (by kernel_rfl)) (fun _ _ _ h => h) (Or.inl ⟨by rfl, ?_⟩) ?_ ?_
                          rotate_left
                          · intro w'
                            go_simp
                            with_reducible rfl
                          rotate_left
                          · simp only [Act.put, List.setIfInBounds_toArray, List.set_cons_zero, List.set_cons_succ, i64_w, i32_w]
                            rfl
                          refine pure_ (i := 7) (N := some 28) (v := ?_) (a' := ?_) #[true, true, true, true, true, true, true, true, false, false] rfl rfl (any_of HT_.out (by kernel_rfl)) (fun _ _ _ h => h) (Or.inl ⟨by rfl, ?_⟩) ?_ ?_
                          rotate_left
                          · intro w'
                            go_simp
                            with_reducible rfl
                          rotate_left
                          · simp only [Act.put, List.setIfInBounds_toArray, List.set_cons_zero, List.set_cons_succ, i64_w, i32_w]
                            rfl
                          refine one_ (i := 8) (N := none) #[true, true, true, true, true, true, true, true, true, false] rfl rfl (one_of HT_.out (by kernel_rfl)) (by decide) (fun K hK => ?_)
                          have hs19 : w18.cell? ⟨gb102, 4, none⟩ = some (.string x103004_1) := (blk_cell BK102.out 4).trans rfl
                          have hfs19 := blk_frozen BK102.out 4
                          refine skip_ (w1 := ?_) (by rfl) rfl ?_ ?_
                          rotate_left
                          · go_simp
                            rfl
                          refine hK.out _ _ trivial (fun hHeld => ?_)
                          clear hK K
                          refine pure_ (i := 9) (N := some 0) (v := ?_) (a' := ?_) #[true, true, true, true, true, true, true, true, true, true] rfl rfl (any_of HT_.out (by kernel_rfl)) (fun _ _ _ h => h) (Or.inl ⟨by rfl, ?_⟩) ?_ ?_
                          rotate_left
                          · intro w'
                            go_simp
                            with_reducible rfl
                          rotate_left
                          · simp only [Act.put, List.setIfInBounds_toArray, List.set_cons_zero, List.set_cons_succ, i64_w, i32_w]
                            rfl
                          refine done_ (done_of HT_.out (by kernel_rfl)) ?_
                          have hcz20_0 : w18.cell? ⟨gb102, 0, none⟩ = some (.int .u64 x103000_1) := (blk_cell BK102.out 0).trans rfl
                          have hcz20_1 : w18.cell? ⟨gb102, 1, none⟩ = some (.int .u64 x103001_1) := (blk_cell BK102.out 1).trans rfl
                          have hcz20_2 : w18.cell? ⟨gb102, 2, none⟩ = some (.int .u64 x103002_1) := (blk_cell BK102.out 2).trans rfl
                          have hcz20_3 : w18.cell? ⟨gb102, 3, none⟩ = some (.string x103003_1) := (blk_cell BK102.out 3).trans rfl
                          have hcz20_4 : w18.cell? ⟨gb102, 4, none⟩ = some (.string x103004_1) := (blk_cell BK102.out 4).trans rfl
                          have hfz20_0 := blk_frozen BK102.out 0
                          have hfz20_1 := blk_frozen BK102.out 1
                          have hfz20_2 := blk_frozen BK102.out 2
                          have hfz20_3 := blk_frozen BK102.out 3
                          have hfz20_4 := blk_frozen BK102.out 4
                          try go_wp2_with (first | ((with_reducible refine gate_callee (f := 15) rfl ?_); refine goesL_ (some 31) rfl rfl Tryz.func15 (by kernel_rfl) rfl #[.string (x0_1.extract ((ji11) : Int).toNat x0_1.size), .bool false] rfl (by (try simp only [List.map_toArray, List.map_cons, List.map_nil]); first | done | (simp only [hji11]; rfl) | rfl | (simp only [List.length_drop, List.length_take]; rfl)) ?_; (with_reducible refine (spec_parts.calls k1 (x0_1.extract ((ji11) : Int).toNat x0_1.size) false true _ A16.out).mono ?_); rintro e w' ⟨rfl, ⟨nd, rfl⟩⟩; refine ⟨_, rfl, ?_⟩))
                          go_meet
                          case rel => exact ⟨_, (x0_1.extract 0 (x4_1 : Int).toNat), (x103000_1), (x103001_1), (x103002_1), (x103003_1), (x0_1.extract ((ji11) : Int).toNat x0_1.size), (by first | rfl | (simp only [bytesLe_not]; done) | (simp; done) | (simp [*]; done)), H', ⟨by have := HK1.out; first | omega | exact Nat.le_refl _⟩, ⟨by (with_reducible repeat (first | refine blk_drewN ?_ _ | refine blk_drew ?_ | refine blk_alloc ?_ _)); refine blk_put (cs := #[.int .u64 x103000_1, .int .u64 x103001_1, .int .u64 x103002_1, .string x103003_1, .string x103004_1]) ?_ 4 _ rfl; (with_reducible repeat (first | refine blk_drewN ?_ _ | refine blk_drew ?_ | refine blk_alloc ?_ _)); exact BK102.out⟩, ⟨by repeat (first | (with_reducible first | exact HB.out | apply below_alloc | apply pw_below_drewN | apply below_drew1 | refine below_set ?_ GE102.out) | exact HB.out)⟩⟩
                      · replace c17 := Bool.eq_false_iff.mpr c17
                        subst c17
                        have H1 : (some (0, 0, 0, (⟨#[]⟩ : ByteArray), (⟨#[]⟩ : ByteArray), false)) = some (r1, r2, r3, r4, r5, r6) := by rw [if_neg (show ¬ (false = true) by decide)] at H; exact H
                        clear H
                        have H := H1
                        clear H1
                        as_aux_lemma =>
                          simp only [Option.some.injEq, Prod.mk.injEq] at H
                          obtain ⟨rfl, rfl, rfl, rfl, rfl, rfl⟩ := H
                          have p9 : 0 ≤ (x4_1 : Int) := of_decide_eq_true (by first | (with_reducible assumption) | assumption)
                          have q9 : x4_1 < (x0_1.size : Int) := of_decide_eq_true (by first | (with_reducible assumption) | assumption)
                          have hx9 := bt_at x0_1 x4_1
                          replace p9 := eq_true p9
                          replace q9 := eq_true q9
                          try go_wp2
                          have n0_ := Aside0.mk (blk_drew BK102.out)
                          have n1_ := Aside0.mk (below_drew1 HB.out)
                          clear BK102
                          clear HB
                          have BK102 := n0_
                          have HB := n1_
                          clear n0_ n1_
                          refine start_ (n := 10) (S := fun w' => True) (ds := []) #[false, false, false, false, false, false, false, false, false, false] (by kernel_rfl) rfl rfl trivial (fun hHeld => ?_); refine with_tabW spec_ParseVersion.tab7 spec_ParseVersion.bits7 (fun HT_ HW_ => ?_)
                          generalize wr.drew = w21 at BK102 HB hHeld ⊢
                          refine pure_ (i := 0) (N := some 21) (v := ?_) (a' := ?_) #[true, false, false, false, false, false, false, false, false, false] rfl rfl (any_of HT_.out (by kernel_rfl)) (fun _ _ _ h => h) (Or.inl ⟨by rfl, ?_⟩) ?_ ?_
                          rotate_left
                          · intro w'
                            go_simp
                            with_reducible rfl
                          rotate_left
                          · simp only [Act.put, List.setIfInBounds_toArray, List.set_cons_zero, List.set_cons_succ, i64_w, i32_w]
                            rfl
                          refine pure_ (i := 1) (N := some 22) (v := ?_) (a' := ?_) #[true, true, false, false, false, false, false, false, false, false] rfl rfl (any_of HT_.out (by kernel_rfl)) (fun _ _ _ h => h) (Or.inl ⟨by rfl, ?_⟩) ?_ ?_
                          rotate_left
                          · intro w'
                            go_simp
                            with_reducible rfl
                          rotate_left
                          · simp only [Act.put, List.setIfInBounds_toArray, List.set_cons_zero, List.set_cons_succ, i64_w, i32_w]
                            rfl
                          refine pure_ (i := 2) (N := some 23) (v := ?_) (a' := ?_) #[true, true, true, false, false, false, false, false, false, false] rfl rfl (any_of HT_.out (by kernel_rfl)) (fun _ _ _ h => h) (Or.inl ⟨by rfl, ?_⟩) ?_ ?_
                          rotate_left
                          · intro w'
                            go_simp
                            with_reducible rfl
                          rotate_left
                          · simp only [Act.put, List.setIfInBounds_toArray, List.set_cons_zero, List.set_cons_succ, i64_w, i32_w]
                            rfl
                          refine pure_ (i := 3) (N := some 24) (v := ?_) (a' := ?_) #[true, true, true, true, false, false, false, false, false, false] rfl rfl (any_of HT_.out (by kernel_rfl)) (fun _ _ _ h => h) (Or.inl ⟨by rfl, ?_⟩) ?_ ?_
                          rotate_left
                          · intro w'
                            go_simp
                            with_reducible rfl
                          rotate_left
                          · simp only [Act.put, List.setIfInBounds_toArray, List.set_cons_zero, List.set_cons_succ, i64_w, i32_w]
                            rfl
                          refine pure_ (i := 4) (N := some 25) (v := ?_) (a' := ?_) #[true, true, true, true, true, false, false, false, false, false] rfl rfl (any_of HT_.out (by kernel_rfl)) (fun _ _ _ h => h) (Or.inl ⟨by rfl, ?_⟩) ?_ ?_
                          rotate_left
                          · intro w'
                            go_simp
                            with_reducible rfl
                          rotate_left
                          · simp only [Act.put, List.setIfInBounds_toArray, List.set_cons_zero, List.set_cons_succ, i64_w, i32_w]
                            rfl
                          refine pure_ (i := 5) (N := some 26) (v := ?_) (a' := ?_) #[true, true, true, true, true, true, false, false, false, false] rfl rfl (any_of HT_.out (by kernel_rfl)) (fun _ _ _ h => h) (Or.inl ⟨by rfl, ?_⟩) ?_ ?_
                          rotate_left
                          · intro w'
                            go_simp
                            with_reducible rfl
                          rotate_left
                          · simp only [Act.put, List.setIfInBounds_toArray, List.set_cons_zero, List.set_cons_succ, i64_w, i32_w]
                            rfl
                          refine pure_ (i := 6) (N := some 27) (v := ?_) (a' := ?_) #[true, true, true, true, true, true, true, false, false, false] rfl rfl (any_of HT_.out (by kernel_rfl)) (fun _ _ _ h => h) (Or.inl ⟨by rfl, ?_⟩) ?_ ?_
                          rotate_left
                          · intro w'
                            go_simp
                            with_reducible rfl
                          rotate_left
                          · simp only [Act.put, List.setIfInBounds_toArray, List.set_cons_zero, List.set_cons_succ, i64_w, i32_w]
                            rfl
                          refine pure_ (i := 7) (N := some 28) (v := ?_) (a' := ?_) #[true, true, true, true, true, true, true, true, false, false] rfl rfl (any_of HT_.out (by kernel_rfl)) (fun _ _ _ h => h) (Or.inl ⟨by rfl, ?_⟩) ?_ ?_
                          rotate_left
                          · intro w'
                            go_simp
                            with_reducible rfl
                          rotate_left
                          · simp only [Act.put, List.setIfInBounds_toArray, List.set_cons_zero, List.set_cons_succ, i64_w, i32_w]
                            rfl
                          refine one_ (i := 8) (N := none) #[true, true, true, true, true, true, true, true, true, false] rfl rfl (one_of HT_.out (by kernel_rfl)) (by decide) (fun K hK => ?_)
                          have hs22 : w21.cell? ⟨gb102, 4, none⟩ = some (.string x103004_1) := (blk_cell BK102.out 4).trans rfl
                          have hfs22 := blk_frozen BK102.out 4
                          refine skip_ (w1 := ?_) (by rfl) rfl ?_ ?_
                          rotate_left
                          · go_simp
                            rfl
                          refine hK.out _ _ trivial (fun hHeld => ?_)
                          clear hK K
                          refine pure_ (i := 9) (N := some 0) (v := ?_) (a' := ?_) #[true, true, true, true, true, true, true, true, true, true] rfl rfl (any_of HT_.out (by kernel_rfl)) (fun _ _ _ h => h) (Or.inl ⟨by rfl, ?_⟩) ?_ ?_
                          rotate_left
                          · intro w'
                            go_simp
                            with_reducible rfl
                          rotate_left
                          · simp only [Act.put, List.setIfInBounds_toArray, List.set_cons_zero, List.set_cons_succ, i64_w, i32_w]
                            rfl
                          refine done_ (done_of HT_.out (by kernel_rfl)) ?_
                          have hcz23_0 : w21.cell? ⟨gb102, 0, none⟩ = some (.int .u64 x103000_1) := (blk_cell BK102.out 0).trans rfl
                          have hcz23_1 : w21.cell? ⟨gb102, 1, none⟩ = some (.int .u64 x103001_1) := (blk_cell BK102.out 1).trans rfl
                          have hcz23_2 : w21.cell? ⟨gb102, 2, none⟩ = some (.int .u64 x103002_1) := (blk_cell BK102.out 2).trans rfl
                          have hcz23_3 : w21.cell? ⟨gb102, 3, none⟩ = some (.string x103003_1) := (blk_cell BK102.out 3).trans rfl
                          have hcz23_4 : w21.cell? ⟨gb102, 4, none⟩ = some (.string x103004_1) := (blk_cell BK102.out 4).trans rfl
                          have hfz23_0 := blk_frozen BK102.out 0
                          have hfz23_1 := blk_frozen BK102.out 1
                          have hfz23_2 := blk_frozen BK102.out 2
                          have hfz23_3 := blk_frozen BK102.out 3
                          have hfz23_4 := blk_frozen BK102.out 4
                          try go_wp2_with (first | ((with_reducible refine gate_callee (f := 15) rfl ?_); refine goesL_ (some 31) rfl rfl Tryz.func15 (by kernel_rfl) rfl #[.string (x0_1.extract ((ji11) : Int).toNat x0_1.size), .bool false] rfl (by (try simp only [List.map_toArray, List.map_cons, List.map_nil]); first | done | (simp only [hji11]; rfl) | rfl | (simp only [List.length_drop, List.length_take]; rfl)) ?_; (with_reducible refine (spec_parts.calls k1 (x0_1.extract ((ji11) : Int).toNat x0_1.size) false false _ A16.out).mono ?_); rintro e w' ⟨rfl, ⟨nd, rfl⟩⟩; refine ⟨_, rfl, ?_⟩))
                          refine bodyPost_ret (results_ct rfl _ _ gb102 24 #[.int .u64 0, .int .u64 0, .int .u64 0, .string (⟨#[]⟩ : ByteArray), .string (⟨#[]⟩ : ByteArray)] (0, 0) _ rfl (by (with_reducible repeat (first | refine blk_drewN ?_ _ | refine blk_drew ?_ | refine blk_alloc ?_ _)); refine blk_put (cs := #[.int .u64 0, .int .u64 0, .int .u64 0, .string (⟨#[]⟩ : ByteArray), .string (x0_1.extract ((ji11) : Int).toNat x0_1.size)]) ?_ 4 _ rfl; (with_reducible repeat (first | refine blk_drewN ?_ _ | refine blk_drew ?_ | refine blk_alloc ?_ _)); refine blk_put (cs := #[.int .u64 0, .int .u64 0, .int .u64 0, .string x103003_1, .string (x0_1.extract ((ji11) : Int).toNat x0_1.size)]) ?_ 3 _ rfl; (with_reducible repeat (first | refine blk_drewN ?_ _ | refine blk_drew ?_ | refine blk_alloc ?_ _)); refine blk_put (cs := #[.int .u64 0, .int .u64 0, .int .u64 x103002_1, .string x103003_1, .string (x0_1.extract ((ji11) : Int).toNat x0_1.size)]) ?_ 2 _ rfl; (with_reducible repeat (first | refine blk_drewN ?_ _ | refine blk_drew ?_ | refine blk_alloc ?_ _)); refine blk_put (cs := #[.int .u64 0, .int .u64 x103001_1, .int .u64 x103002_1, .string x103003_1, .string (x0_1.extract ((ji11) : Int).toNat x0_1.size)]) ?_ 1 _ rfl; (with_reducible repeat (first | refine blk_drewN ?_ _ | refine blk_drew ?_ | refine blk_alloc ?_ _)); refine blk_put (cs := #[.int .u64 x103000_1, .int .u64 x103001_1, .int .u64 x103002_1, .string x103003_1, .string (x0_1.extract ((ji11) : Int).toNat x0_1.size)]) ?_ 0 _ rfl; (with_reducible repeat (first | refine blk_drewN ?_ _ | refine blk_drew ?_ | refine blk_alloc ?_ _)); refine blk_put (cs := #[.int .u64 x103000_1, .int .u64 x103001_1, .int .u64 x103002_1, .string x103003_1, .string x103004_1]) ?_ 4 _ rfl; (with_reducible repeat (first | refine blk_drewN ?_ _ | refine blk_drew ?_ | refine blk_alloc ?_ _)); exact BK102.out) Tryz.underlying24 rfl (by kernel_rfl)) rfl ?_
                          exact ⟨by first | rfl | (simp [errW_none, errW_some] <;> rfl) | (simp only [← hji11]; first | rfl | (simp [errW_none, errW_some] <;> rfl)) | (simp [*, errW_none, errW_some] <;> rfl), by repeat (first | (with_reducible first | exact HB.out | apply below_alloc | apply pw_below_drewN | apply below_drew1 | refine below_set ?_ GE102.out) | exact HB.out)⟩
                    · rw [if_neg c15] at H
                      exact absurd H (by simp)
                  · rw [if_neg c13] at H
                    exact absurd H (by simp)
                · rw [if_neg c12] at H
                  exact absurd H (by simp)
              · rw [if_neg c10] at H
                have c10b0 : ((bt x0_1 x4_1) == 43) = false := beq_eq_false_iff_ne.mpr c10
                have c10b1 : ((bt x0_1 x4_1) != 43) = true := bne_iff_ne.mpr c10
                as_aux_lemma =>
                  have H' := Aside0.mk H
                  clear H
                  have p9 : 0 ≤ (x4_1 : Int) := of_decide_eq_true (by first | (with_reducible assumption) | assumption)
                  have q9 : x4_1 < (x0_1.size : Int) := of_decide_eq_true (by first | (with_reducible assumption) | assumption)
                  have hx9 := bt_at x0_1 x4_1
                  replace p9 := eq_true p9
                  replace q9 := eq_true q9
                  go_wp2
                  go_roundg k1
                  case measure => have := HK1.out; omega
                  case rel => exact ⟨(x0_1), (wrap64 (x4_1 + 1)), (x103000_1), (x103001_1), (x103002_1), (x103003_1), (x103004_1), (by first | rfl | (simp only [bytesLe_not]; done) | (simp; done) | (simp [*]; done)), (by first | rfl | (simp only [bytesLe_not]; done) | (simp; done) | (simp [*]; done)), H', ⟨by have := HK1.out; omega⟩, ⟨by (with_reducible repeat (first | refine blk_drewN ?_ _ | refine blk_drew ?_ | refine blk_alloc ?_ _)); exact BK102.out⟩, ⟨by repeat (first | (with_reducible first | exact HB.out | apply below_alloc | apply pw_below_drewN | apply below_drew1 | refine below_set ?_ GE102.out) | exact HB.out)⟩⟩
            · rw [if_neg c8] at H
              exact absurd H (by simp)
          · rw [if_neg c7] at H
            have c7b0 : decide (x4_1 < (x0_1.size : Int)) = false := decide_eq_false c7
            clear c7
            (first | rw [c7b0] | (simp only [i64_w, i32_w]; rw [c7b0]) | skip)
            as_aux_lemma =>
              have H' := Aside0.mk H
              clear H
              go_wp2
              go_meet
              case rel => exact ⟨_, (x0_1), (x103000_1), (x103001_1), (x103002_1), (x103003_1), (x103004_1), (by first | rfl | (simp only [bytesLe_not]; done) | (simp; done) | (simp [*]; done)), H', ⟨by have := HK1.out; first | omega | exact Nat.le_refl _⟩, ⟨by (with_reducible repeat (first | refine blk_drewN ?_ _ | refine blk_drew ?_ | refine blk_alloc ?_ _)); exact BK102.out⟩, ⟨by repeat (first | (with_reducible first | exact HB.out | apply below_alloc | apply pw_below_drewN | apply below_drew1 | refine below_set ?_ GE102.out) | exact HB.out)⟩⟩
    case rest =>
      clear HC5
      try clear c1
      try clear c2
      try clear c2b0
      try clear c2b1
      try clear p2
      try clear p6
      try clear c7
      try clear c7b0
      try clear c8
      try clear c8b0
      try clear p9
      try clear q9
      try clear hx9
      try clear c10
      try clear c10b0
      try clear c10b1
      try clear c12
      try clear c12b0
      try clear c12b1
      try clear c13
      try clear c13b0
      try clear c13b1
      try clear c14
      try clear c14b0
      try clear c15
      try clear c15b0
      try clear c15b1
      try clear c17
      try clear hcz20_0
      try clear hcz20_1
      try clear hcz20_2
      try clear hcz20_3
      try clear hcz20_4
      try clear hcz23_0
      try clear hcz23_1
      try clear hcz23_2
      try clear hcz23_3
      try clear hcz23_4
      try clear hcz4_0
      try clear hcz4_1
      try clear hcz4_2
      try clear hcz4_3
      try clear hcz4_4
      try clear hfz20_0
      try clear hfz20_1
      try clear hfz20_2
      try clear hfz20_3
      try clear hfz20_4
      try clear hfz23_0
      try clear hfz23_1
      try clear hfz23_2
      try clear hfz23_3
      try clear hfz23_4
      try clear hfz4_0
      try clear hfz4_1
      try clear hfz4_2
      try clear hfz4_3
      try clear hfz4_4
      try clear p2
      try clear p9
      try clear q9
      obtain ⟨kq, x0_4, x103000_4, x103001_4, x103002_4, x103003_4, x103004_4, rfl, HA, HJ4, BK102, HB⟩ := hcut
      cases kq with
      | zero => exact absurd HA.out (by simp [spec_ParseVersion.j1])
      | succ kj4 =>
        have H := HA.out
        clear HA
        simp only [spec_ParseVersion.j1] at H
        replace H := Option.bind_eq_some_iff.mp H
        obtain ⟨⟨t104, t105, t106⟩, A240, H⟩ := H
        replace H : (if t106 = true then (if (t105.size : Int) = 0 then (spec_ParseVersion.j2 kj4 t105 true t104 x103001_4 x103002_4 x103003_4 x103004_4) else (if 0 < (t105.size : Int) then (spec_ParseVersion.j2 kj4 t105 ((bt t105 0) != 46) t104 x103001_4 x103002_4 x103003_4 x103004_4) else (none))) else (spec_ParseVersion.j2 kj4 t105 true t104 x103001_4 x103002_4 x103003_4 x103004_4)) = some (r1, r2, r3, r4, r5, r6) := H
        have A24 := Aside0.mk A240
        clear A240
        have HC25 := Aside0.mk H
        clear H
        go_upto_region 12 with (first | ((with_reducible refine gate_callee (f := 16) rfl ?_); refine goesL_ (some 37) rfl rfl Tryz.func16 (by kernel_rfl) rfl #[.string x0_4] rfl (by (try simp only [List.map_toArray, List.map_cons, List.map_nil]); first | done | rfl | (simp only [List.length_drop, List.length_take]; rfl)) ?_; (with_reducible refine (spec_number.calls kj4 x0_4 t104 t105 t106 _ A24.out).mono ?_); rintro e w' ⟨rfl, ⟨nd, rfl⟩⟩; refine ⟨_, rfl, ?_⟩; (try (rw [drewN_self wc]; generalize hq_ : World.drewN wc _ = wc; have n0_ : Aside0 (wc.heap[gb102]? = some (.cells #[.int .u64 x103000_4, .int .u64 x103001_4, .int .u64 x103002_4, .string x103003_4, .string x103004_4] 24 (0, 0))) := ⟨by rw [← hq_]; exact (by (with_reducible repeat (first | refine blk_drewN ?_ _ | refine blk_drew ?_ | refine blk_alloc ?_ _)); exact BK102.out)⟩; have n1_ : Aside0 (Below w.heap.size w wc) := ⟨by rw [← hq_]; exact (by repeat (first | (with_reducible first | exact HB.out | apply below_alloc | apply pw_below_drewN | apply below_drew1 | refine below_set ?_ GE102.out) | exact HB.out))⟩; clear BK102 HB hq_; have BK102 := n0_; have HB := n1_; clear n0_ n1_)); have hcz26_0 : wc.cell? ⟨gb102, 0, none⟩ = some (.int .u64 x103000_4) := (blk_cell BK102.out 0).trans rfl; have hcz26_1 : wc.cell? ⟨gb102, 1, none⟩ = some (.int .u64 x103001_4) := (blk_cell BK102.out 1).trans rfl; have hcz26_2 : wc.cell? ⟨gb102, 2, none⟩ = some (.int .u64 x103002_4) := (blk_cell BK102.out 2).trans rfl; have hcz26_3 : wc.cell? ⟨gb102, 3, none⟩ = some (.string x103003_4) := (blk_cell BK102.out 3).trans rfl; have hcz26_4 : wc.cell? ⟨gb102, 4, none⟩ = some (.string x103004_4) := (blk_cell BK102.out 4).trans rfl; have hfz26_0 := blk_frozen BK102.out 0; have hfz26_1 := blk_frozen BK102.out 1; have hfz26_2 := blk_frozen BK102.out 2; have hfz26_3 := blk_frozen BK102.out 3; have hfz26_4 := blk_frozen BK102.out 4))
        (try simp only [Act.put, List.setIfInBounds_toArray, List.set_cons_zero, List.set_cons_succ])
        go_cut [53] (fun v53 wc => ∃ (kq : Nat) (x53_24 : Bool), v53 = .bool x53_24 ∧ Aside0 (spec_ParseVersion.j2 kq t105 x53_24 t104 x103001_4 x103002_4 x103003_4 x103004_4 = some (r1, r2, r3, r4, r5, r6)) ∧ Aside0 (kq ≤ kj4) ∧ Aside0 (wc.heap[gb102]? = some (.cells #[.int .u64 t104, .int .u64 x103001_4, .int .u64 x103002_4, .string x103003_4, .string x103004_4] 24 (0, 0))) ∧ Aside0 (Below w.heap.size w wc))
        case first =>
          have H := HC25.out
          clear HC25
          by_cases c27 : t106 = true
          · subst c27
            have H1 : (if (t105.size : Int) = 0 then (spec_ParseVersion.j2 kj4 t105 true t104 x103001_4 x103002_4 x103003_4 x103004_4) else (if 0 < (t105.size : Int) then (spec_ParseVersion.j2 kj4 t105 ((bt t105 0) != 46) t104 x103001_4 x103002_4 x103003_4 x103004_4) else (none))) = some (r1, r2, r3, r4, r5, r6) := by rw [if_pos rfl] at H; exact H
            clear H
            have H := H1
            clear H1
            by_cases c28 : (t105.size : Int) = 0
            · rw [if_pos c28] at H
              have c28b0 : ((t105.size : Int) == 0) = true := beq_iff_eq.mpr c28
              have c28b1 : ((t105.size : Int) != 0) = false := bne_eq_false_iff_eq.mpr c28
              clear c28
              (first | rw [c28b0] | (simp only [i64_w, i32_w]; rw [c28b0]) | skip)
              as_aux_lemma =>
                have H' := Aside0.mk H
                clear H
                go_wp2
                go_meet
                case rel => exact ⟨_, (true), (by first | rfl | (simp only [bytesLe_not]; done) | (simp; done) | (simp [*]; done)), H', ⟨by have := HJ4.out; first | omega | exact Nat.le_refl _⟩, ⟨by (with_reducible repeat (first | refine blk_drewN ?_ _ | refine blk_drew ?_ | refine blk_alloc ?_ _)); refine blk_put (cs := #[.int .u64 x103000_4, .int .u64 x103001_4, .int .u64 x103002_4, .string x103003_4, .string x103004_4]) ?_ 0 _ rfl; (with_reducible repeat (first | refine blk_drewN ?_ _ | refine blk_drew ?_ | refine blk_alloc ?_ _)); exact BK102.out⟩, ⟨by repeat (first | (with_reducible first | exact HB.out | apply below_alloc | apply pw_below_drewN | apply below_drew1 | refine below_set ?_ GE102.out) | exact HB.out)⟩⟩
            · rw [if_neg c28] at H
              have c28b0 : ((t105.size : Int) == 0) = false := beq_eq_false_iff_ne.mpr c28
              have c28b1 : ((t105.size : Int) != 0) = true := bne_iff_ne.mpr c28
              (first | rw [c28b0] | (simp only [i64_w, i32_w]; rw [c28b0]) | skip)
              by_cases c29 : 0 < (t105.size : Int)
              · rw [if_pos c29] at H
                have c29b0 : decide (0 < (t105.size : Int)) = true := decide_eq_true c29
                have c29b1 : decide (0 < t105.size) = true := decide_eq_true (by omega)
                clear c29
                as_aux_lemma =>
                  have H' := Aside0.mk H
                  clear H
                  have p30 : 0 ≤ (0 : Int) := (by omega)
                  have q30 : 0 < t105.size := (by have : (0 : Int) < (t105.size : Int) := of_decide_eq_true (by first | (with_reducible assumption) | assumption); omega)
                  have hx30 : ∀ h : 0 < t105.size, ((t105[0]'h).toNat : Int) = bt t105 0 := bt_at t105 0
                  clear p30
                  have qi30 : (0 < (t105.size : Int)) = True := eq_true (of_decide_eq_true (by first | (with_reducible assumption) | assumption))
                  replace q30 := eq_true q30
                  go_wp2
                  go_meet
                  case rel => exact ⟨_, (((bt t105 0) != 46)), (by first | rfl | (simp only [bytesLe_not]; done) | (simp; done) | (simp [*]; done)), H', ⟨by have := HJ4.out; first | omega | exact Nat.le_refl _⟩, ⟨by (with_reducible repeat (first | refine blk_drewN ?_ _ | refine blk_drew ?_ | refine blk_alloc ?_ _)); refine blk_put (cs := #[.int .u64 x103000_4, .int .u64 x103001_4, .int .u64 x103002_4, .string x103003_4, .string x103004_4]) ?_ 0 _ rfl; (with_reducible repeat (first | refine blk_drewN ?_ _ | refine blk_drew ?_ | refine blk_alloc ?_ _)); exact BK102.out⟩, ⟨by repeat (first | (with_reducible first | exact HB.out | apply below_alloc | apply pw_below_drewN | apply below_drew1 | refine below_set ?_ GE102.out) | exact HB.out)⟩⟩
              · rw [if_neg c29] at H
                exact absurd H (by simp)
          · replace c27 := Bool.eq_false_iff.mpr c27
            subst c27
            have H1 : (spec_ParseVersion.j2 kj4 t105 true t104 x103001_4 x103002_4 x103003_4 x103004_4) = some (r1, r2, r3, r4, r5, r6) := by rw [if_neg (show ¬ (false = true) by decide)] at H; exact H
            clear H
            have H := H1
            clear H1
            as_aux_lemma =>
              have H' := Aside0.mk H
              clear H
              go_wp2
              go_meet
              case rel => exact ⟨_, (true), (by first | rfl | (simp only [bytesLe_not]; done) | (simp; done) | (simp [*]; done)), H', ⟨by have := HJ4.out; first | omega | exact Nat.le_refl _⟩, ⟨by (with_reducible repeat (first | refine blk_drewN ?_ _ | refine blk_drew ?_ | refine blk_alloc ?_ _)); refine blk_put (cs := #[.int .u64 x103000_4, .int .u64 x103001_4, .int .u64 x103002_4, .string x103003_4, .string x103004_4]) ?_ 0 _ rfl; (with_reducible repeat (first | refine blk_drewN ?_ _ | refine blk_drew ?_ | refine blk_alloc ?_ _)); exact BK102.out⟩, ⟨by repeat (first | (with_reducible first | exact HB.out | apply below_alloc | apply pw_below_drewN | apply below_drew1 | refine below_set ?_ GE102.out) | exact HB.out)⟩⟩
        case rest =>
          clear HC25
          try clear c1
          try clear c2
          try clear c2b0
          try clear c2b1
          try clear p2
          try clear p3
          try clear q3
          try clear hx3
          try clear qi3
          try clear p6
          try clear c7
          try clear c7b0
          try clear c8
          try clear c8b0
          try clear p9
          try clear q9
          try clear hx9
          try clear c10
          try clear c10b0
          try clear c10b1
          try clear c12
          try clear c12b0
          try clear c12b1
          try clear c13
          try clear c13b0
          try clear c13b1
          try clear c14
          try clear c14b0
          try clear c15
          try clear c15b0
          try clear c15b1
          try clear c16
          try clear c17
          try clear c27
          try clear c28
          try clear c28b0
          try clear c28b1
          try clear c29
          try clear c29b0
          try clear c29b1
          try clear p30
          try clear q30
          try clear hx30
          try clear qi30
          try clear hcz20_0
          try clear hcz20_1
          try clear hcz20_2
          try clear hcz20_3
          try clear hcz20_4
          try clear hcz23_0
          try clear hcz23_1
          try clear hcz23_2
          try clear hcz23_3
          try clear hcz23_4
          try clear hcz26_0
          try clear hcz26_1
          try clear hcz26_2
          try clear hcz26_3
          try clear hcz26_4
          try clear hcz4_0
          try clear hcz4_1
          try clear hcz4_2
          try clear hcz4_3
          try clear hcz4_4
          try clear hfz20_0
          try clear hfz20_1
          try clear hfz20_2
          try clear hfz20_3
          try clear hfz20_4
          try clear hfz23_0
          try clear hfz23_1
          try clear hfz23_2
          try clear hfz23_3
          try clear hfz23_4
          try clear hfz26_0
          try clear hfz26_1
          try clear hfz26_2
          try clear hfz26_3
          try clear hfz26_4
          try clear hfz4_0
          try clear hfz4_1
          try clear hfz4_2
          try clear hfz4_3
          try clear hfz4_4
          try clear p2
          try clear p30
          try clear p6
          try clear p9
          try clear q30
          try clear q9
          obtain ⟨kq, x53_24, rfl, HA, HJ24, BK102, HB⟩ := hcut
          cases kq with
          | zero => exact absurd HA.out (by simp [spec_ParseVersion.j2])
          | succ kj24 =>
            have H := HA.out
            clear HA
            simp only [spec_ParseVersion.j2] at H
            by_cases c31 : x53_24 = true
            · subst c31
              have H1 : (some (0, 0, 0, (⟨#[]⟩ : ByteArray), (⟨#[]⟩ : ByteArray), false)) = some (r1, r2, r3, r4, r5, r6) := by rw [if_pos rfl] at H; exact H
              clear H
              have H := H1
              clear H1
              as_aux_lemma =>
                simp only [Option.some.injEq, Prod.mk.injEq] at H
                obtain ⟨rfl, rfl, rfl, rfl, rfl, rfl⟩ := H
                have hcz32_0 : wc.cell? ⟨gb102, 0, none⟩ = some (.int .u64 t104) := (blk_cell BK102.out 0).trans rfl
                have hcz32_1 : wc.cell? ⟨gb102, 1, none⟩ = some (.int .u64 x103001_4) := (blk_cell BK102.out 1).trans rfl
                have hcz32_2 : wc.cell? ⟨gb102, 2, none⟩ = some (.int .u64 x103002_4) := (blk_cell BK102.out 2).trans rfl
                have hcz32_3 : wc.cell? ⟨gb102, 3, none⟩ = some (.string x103003_4) := (blk_cell BK102.out 3).trans rfl
                have hcz32_4 : wc.cell? ⟨gb102, 4, none⟩ = some (.string x103004_4) := (blk_cell BK102.out 4).trans rfl
                have hfz32_0 := blk_frozen BK102.out 0
                have hfz32_1 := blk_frozen BK102.out 1
                have hfz32_2 := blk_frozen BK102.out 2
                have hfz32_3 := blk_frozen BK102.out 3
                have hfz32_4 := blk_frozen BK102.out 4
                go_wp2
                refine bodyPost_ret (results_ct rfl _ _ gb102 24 #[.int .u64 0, .int .u64 0, .int .u64 0, .string (⟨#[]⟩ : ByteArray), .string (⟨#[]⟩ : ByteArray)] (0, 0) _ rfl (by (with_reducible repeat (first | refine blk_drewN ?_ _ | refine blk_drew ?_ | refine blk_alloc ?_ _)); refine blk_put (cs := #[.int .u64 0, .int .u64 0, .int .u64 0, .string (⟨#[]⟩ : ByteArray), .string x103004_4]) ?_ 4 _ rfl; (with_reducible repeat (first | refine blk_drewN ?_ _ | refine blk_drew ?_ | refine blk_alloc ?_ _)); refine blk_put (cs := #[.int .u64 0, .int .u64 0, .int .u64 0, .string x103003_4, .string x103004_4]) ?_ 3 _ rfl; (with_reducible repeat (first | refine blk_drewN ?_ _ | refine blk_drew ?_ | refine blk_alloc ?_ _)); refine blk_put (cs := #[.int .u64 0, .int .u64 0, .int .u64 x103002_4, .string x103003_4, .string x103004_4]) ?_ 2 _ rfl; (with_reducible repeat (first | refine blk_drewN ?_ _ | refine blk_drew ?_ | refine blk_alloc ?_ _)); refine blk_put (cs := #[.int .u64 0, .int .u64 x103001_4, .int .u64 x103002_4, .string x103003_4, .string x103004_4]) ?_ 1 _ rfl; (with_reducible repeat (first | refine blk_drewN ?_ _ | refine blk_drew ?_ | refine blk_alloc ?_ _)); refine blk_put (cs := #[.int .u64 t104, .int .u64 x103001_4, .int .u64 x103002_4, .string x103003_4, .string x103004_4]) ?_ 0 _ rfl; (with_reducible repeat (first | refine blk_drewN ?_ _ | refine blk_drew ?_ | refine blk_alloc ?_ _)); exact BK102.out) Tryz.underlying24 rfl (by kernel_rfl)) rfl ?_
                exact ⟨by first | rfl | (simp [errW_none, errW_some] <;> rfl) | (simp [*, errW_none, errW_some] <;> rfl), by repeat (first | (with_reducible first | exact HB.out | apply below_alloc | apply pw_below_drewN | apply below_drew1 | refine below_set ?_ GE102.out) | exact HB.out)⟩
            · replace c31 := Bool.eq_false_iff.mpr c31
              subst c31
              have H1 : (if 1 ≤ (t105.size : Int) then ((spec_number.f kj24 (t105.extract 1 t105.size)).bind fun bt107 => (if bt107.2.2 = true then (if (bt107.2.1.size : Int) = 0 then (spec_ParseVersion.j3 kj24 bt107.2.1 true t104 bt107.1 x103002_4 x103003_4 x103004_4) else (if 0 < (bt107.2.1.size : Int) then (spec_ParseVersion.j3 kj24 bt107.2.1 ((bt bt107.2.1 0) != 46) t104 bt107.1 x103002_4 x103003_4 x103004_4) else (none))) else (spec_ParseVersion.j3 kj24 bt107.2.1 true t104 bt107.1 x103002_4 x103003_4 x103004_4))) else (none)) = some (r1, r2, r3, r4, r5, r6) := by rw [if_neg (show ¬ (false = true) by decide)] at H; exact H
              clear H
              have H := H1
              clear H1
              by_cases c33 : 1 ≤ (t105.size : Int)
              · rw [if_pos c33] at H
                have c33b0 := eq_true c33
                have c33b1 : decide (1 ≤ (t105.size : Int)) = true := decide_eq_true c33
                clear c33
                replace H := Option.bind_eq_some_iff.mp H
                obtain ⟨⟨t107, t108, t109⟩, A340, H⟩ := H
                replace H : (if t109 = true then (if (t108.size : Int) = 0 then (spec_ParseVersion.j3 kj24 t108 true t104 t107 x103002_4 x103003_4 x103004_4) else (if 0 < (t108.size : Int) then (spec_ParseVersion.j3 kj24 t108 ((bt t108 0) != 46) t104 t107 x103002_4 x103003_4 x103004_4) else (none))) else (spec_ParseVersion.j3 kj24 t108 true t104 t107 x103002_4 x103003_4 x103004_4)) = some (r1, r2, r3, r4, r5, r6) := H
                have A34 := Aside0.mk A340
                clear A340
                have HC35 := Aside0.mk H
                clear H
                go_upto_region 15 with (first | ((with_reducible refine gate_callee (f := 16) rfl ?_); refine goesL_ (some 58) rfl rfl Tryz.func16 (by kernel_rfl) rfl #[.string (t105.extract 1 t105.size)] rfl (by (try simp only [List.map_toArray, List.map_cons, List.map_nil]); first | done | rfl | (simp only [List.length_drop, List.length_take]; rfl)) ?_; (with_reducible refine (spec_number.calls kj24 (t105.extract 1 t105.size) t107 t108 t109 _ A34.out).mono ?_); rintro e w' ⟨rfl, ⟨nd, rfl⟩⟩; refine ⟨_, rfl, ?_⟩; (try (rw [drewN_self wc]; generalize hq_ : World.drewN wc _ = wc; have n0_ : Aside0 (wc.heap[gb102]? = some (.cells #[.int .u64 t104, .int .u64 x103001_4, .int .u64 x103002_4, .string x103003_4, .string x103004_4] 24 (0, 0))) := ⟨by rw [← hq_]; exact (by (with_reducible repeat (first | refine blk_drewN ?_ _ | refine blk_drew ?_ | refine blk_alloc ?_ _)); exact BK102.out)⟩; have n1_ : Aside0 (Below w.heap.size w wc) := ⟨by rw [← hq_]; exact (by repeat (first | (with_reducible first | exact HB.out | apply below_alloc | apply pw_below_drewN | apply below_drew1 | refine below_set ?_ GE102.out) | exact HB.out))⟩; clear BK102 HB hq_; have BK102 := n0_; have HB := n1_; clear n0_ n1_)); have hcz36_0 : wc.cell? ⟨gb102, 0, none⟩ = some (.int .u64 t104) := (blk_cell BK102.out 0).trans rfl; have hcz36_1 : wc.cell? ⟨gb102, 1, none⟩ = some (.int .u64 x103001_4) := (blk_cell BK102.out 1).trans rfl; have hcz36_2 : wc.cell? ⟨gb102, 2, none⟩ = some (.int .u64 x103002_4) := (blk_cell BK102.out 2).trans rfl; have hcz36_3 : wc.cell? ⟨gb102, 3, none⟩ = some (.string x103003_4) := (blk_cell BK102.out 3).trans rfl; have hcz36_4 : wc.cell? ⟨gb102, 4, none⟩ = some (.string x103004_4) := (blk_cell BK102.out 4).trans rfl; have hfz36_0 := blk_frozen BK102.out 0; have hfz36_1 := blk_frozen BK102.out 1; have hfz36_2 := blk_frozen BK102.out 2; have hfz36_3 := blk_frozen BK102.out 3; have hfz36_4 := blk_frozen BK102.out 4))
                (try simp only [Act.put, List.setIfInBounds_toArray, List.set_cons_zero, List.set_cons_succ])
                go_cut [74] (fun v74 wc => ∃ (kq : Nat) (x74_34 : Bool), v74 = .bool x74_34 ∧ Aside0 (spec_ParseVersion.j3 kq t108 x74_34 t104 t107 x103002_4 x103003_4 x103004_4 = some (r1, r2, r3, r4, r5, r6)) ∧ Aside0 (kq ≤ kj24) ∧ Aside0 (wc.heap[gb102]? = some (.cells #[.int .u64 t104, .int .u64 t107, .int .u64 x103002_4, .string x103003_4, .string x103004_4] 24 (0, 0))) ∧ Aside0 (Below w.heap.size w wc))
                case first =>
                  have H := HC35.out
                  clear HC35
                  by_cases c37 : t109 = true
                  · subst c37
                    have H1 : (if (t108.size : Int) = 0 then (spec_ParseVersion.j3 kj24 t108 true t104 t107 x103002_4 x103003_4 x103004_4) else (if 0 < (t108.size : Int) then (spec_ParseVersion.j3 kj24 t108 ((bt t108 0) != 46) t104 t107 x103002_4 x103003_4 x103004_4) else (none))) = some (r1, r2, r3, r4, r5, r6) := by rw [if_pos rfl] at H; exact H
                    clear H
                    have H := H1
                    clear H1
                    by_cases c38 : (t108.size : Int) = 0
                    · rw [if_pos c38] at H
                      have c38b0 : ((t108.size : Int) == 0) = true := beq_iff_eq.mpr c38
                      have c38b1 : ((t108.size : Int) != 0) = false := bne_eq_false_iff_eq.mpr c38
                      clear c38
                      (first | rw [c38b0] | (simp only [i64_w, i32_w]; rw [c38b0]) | skip)
                      as_aux_lemma =>
                        have H' := Aside0.mk H
                        clear H
                        go_wp2
                        go_meet
                        case rel => exact ⟨_, (true), (by first | rfl | (simp only [bytesLe_not]; done) | (simp; done) | (simp [*]; done)), H', ⟨by have := HJ4.out; have := HJ24.out; first | omega | exact Nat.le_refl _⟩, ⟨by (with_reducible repeat (first | refine blk_drewN ?_ _ | refine blk_drew ?_ | refine blk_alloc ?_ _)); refine blk_put (cs := #[.int .u64 t104, .int .u64 x103001_4, .int .u64 x103002_4, .string x103003_4, .string x103004_4]) ?_ 1 _ rfl; (with_reducible repeat (first | refine blk_drewN ?_ _ | refine blk_drew ?_ | refine blk_alloc ?_ _)); exact BK102.out⟩, ⟨by repeat (first | (with_reducible first | exact HB.out | apply below_alloc | apply pw_below_drewN | apply below_drew1 | refine below_set ?_ GE102.out) | exact HB.out)⟩⟩
                    · rw [if_neg c38] at H
                      have c38b0 : ((t108.size : Int) == 0) = false := beq_eq_false_iff_ne.mpr c38
                      have c38b1 : ((t108.size : Int) != 0) = true := bne_iff_ne.mpr c38
                      (first | rw [c38b0] | (simp only [i64_w, i32_w]; rw [c38b0]) | skip)
                      by_cases c39 : 0 < (t108.size : Int)
                      · rw [if_pos c39] at H
                        have c39b0 : decide (0 < (t108.size : Int)) = true := decide_eq_true c39
                        have c39b1 : decide (0 < t108.size) = true := decide_eq_true (by omega)
                        clear c39
                        as_aux_lemma =>
                          have H' := Aside0.mk H
                          clear H
                          have p40 : 0 ≤ (0 : Int) := (by omega)
                          have q40 : 0 < t108.size := (by have : (0 : Int) < (t108.size : Int) := of_decide_eq_true (by first | (with_reducible assumption) | assumption); omega)
                          have hx40 : ∀ h : 0 < t108.size, ((t108[0]'h).toNat : Int) = bt t108 0 := bt_at t108 0
                          clear p40
                          have qi40 : (0 < (t108.size : Int)) = True := eq_true (of_decide_eq_true (by first | (with_reducible assumption) | assumption))
                          replace q40 := eq_true q40
                          go_wp2
                          go_meet
                          case rel => exact ⟨_, (((bt t108 0) != 46)), (by first | rfl | (simp only [bytesLe_not]; done) | (simp; done) | (simp [*]; done)), H', ⟨by have := HJ4.out; have := HJ24.out; first | omega | exact Nat.le_refl _⟩, ⟨by (with_reducible repeat (first | refine blk_drewN ?_ _ | refine blk_drew ?_ | refine blk_alloc ?_ _)); refine blk_put (cs := #[.int .u64 t104, .int .u64 x103001_4, .int .u64 x103002_4, .string x103003_4, .string x103004_4]) ?_ 1 _ rfl; (with_reducible repeat (first | refine blk_drewN ?_ _ | refine blk_drew ?_ | refine blk_alloc ?_ _)); exact BK102.out⟩, ⟨by repeat (first | (with_reducible first | exact HB.out | apply below_alloc | apply pw_below_drewN | apply below_drew1 | refine below_set ?_ GE102.out) | exact HB.out)⟩⟩
                      · rw [if_neg c39] at H
                        exact absurd H (by simp)
                  · replace c37 := Bool.eq_false_iff.mpr c37
                    subst c37
                    have H1 : (spec_ParseVersion.j3 kj24 t108 true t104 t107 x103002_4 x103003_4 x103004_4) = some (r1, r2, r3, r4, r5, r6) := by rw [if_neg (show ¬ (false = true) by decide)] at H; exact H
                    clear H
                    have H := H1
                    clear H1
                    as_aux_lemma =>
                      have H' := Aside0.mk H
                      clear H
                      go_wp2
                      go_meet
                      case rel => exact ⟨_, (true), (by first | rfl | (simp only [bytesLe_not]; done) | (simp; done) | (simp [*]; done)), H', ⟨by have := HJ4.out; have := HJ24.out; first | omega | exact Nat.le_refl _⟩, ⟨by (with_reducible repeat (first | refine blk_drewN ?_ _ | refine blk_drew ?_ | refine blk_alloc ?_ _)); refine blk_put (cs := #[.int .u64 t104, .int .u64 x103001_4, .int .u64 x103002_4, .string x103003_4, .string x103004_4]) ?_ 1 _ rfl; (with_reducible repeat (first | refine blk_drewN ?_ _ | refine blk_drew ?_ | refine blk_alloc ?_ _)); exact BK102.out⟩, ⟨by repeat (first | (with_reducible first | exact HB.out | apply below_alloc | apply pw_below_drewN | apply below_drew1 | refine below_set ?_ GE102.out) | exact HB.out)⟩⟩
                case rest =>
                  clear HC35
                  try clear c1
                  try clear c2
                  try clear c2b0
                  try clear c2b1
                  try clear p2
                  try clear c3
                  try clear p3
                  try clear q3
                  try clear hx3
                  try clear qi3
                  try clear p4
                  try clear q4
                  try clear hx4
                  try clear qi4
                  try clear p6
                  try clear c7
                  try clear c7b0
                  try clear c8
                  try clear c8b0
                  try clear p9
                  try clear q9
                  try clear hx9
                  try clear c10
                  try clear c10b0
                  try clear c10b1
                  try clear c12
                  try clear c12b0
                  try clear c12b1
                  try clear c13
                  try clear c13b0
                  try clear c13b1
                  try clear c14
                  try clear c14b0
                  try clear c15
                  try clear c15b0
                  try clear c15b1
                  try clear c16
                  try clear c17
                  try clear c27
                  try clear c28
                  try clear c28b0
                  try clear c28b1
                  try clear c29
                  try clear c29b0
                  try clear c29b1
                  try clear p30
                  try clear q30
                  try clear hx30
                  try clear qi30
                  try clear c31
                  try clear c33
                  try clear c33b0
                  try clear c33b1
                  try clear c37
                  try clear c38
                  try clear c38b0
                  try clear c38b1
                  try clear c39
                  try clear c39b0
                  try clear c39b1
                  try clear p40
                  try clear q40
                  try clear hx40
                  try clear qi40
                  try clear hcz20_0
                  try clear hcz20_1
                  try clear hcz20_2
                  try clear hcz20_3
                  try clear hcz20_4
                  try clear hcz23_0
                  try clear hcz23_1
                  try clear hcz23_2
                  try clear hcz23_3
                  try clear hcz23_4
                  try clear hcz26_0
                  try clear hcz26_1
                  try clear hcz26_2
                  try clear hcz26_3
                  try clear hcz26_4
                  try clear hcz32_0
                  try clear hcz32_1
                  try clear hcz32_2
                  try clear hcz32_3
                  try clear hcz32_4
                  try clear hcz36_0
                  try clear hcz36_1
                  try clear hcz36_2
                  try clear hcz36_3
                  try clear hcz36_4
                  try clear hcz4_0
                  try clear hcz4_1
                  try clear hcz4_2
                  try clear hcz4_3
                  try clear hcz4_4
                  try clear hfz20_0
                  try clear hfz20_1
                  try clear hfz20_2
                  try clear hfz20_3
                  try clear hfz20_4
                  try clear hfz23_0
                  try clear hfz23_1
                  try clear hfz23_2
                  try clear hfz23_3
                  try clear hfz23_4
                  try clear hfz26_0
                  try clear hfz26_1
                  try clear hfz26_2
                  try clear hfz26_3
                  try clear hfz26_4
                  try clear hfz32_0
                  try clear hfz32_1
                  try clear hfz32_2
                  try clear hfz32_3
                  try clear hfz32_4
                  try clear hfz36_0
                  try clear hfz36_1
                  try clear hfz36_2
                  try clear hfz36_3
                  try clear hfz36_4
                  try clear hfz4_0
                  try clear hfz4_1
                  try clear hfz4_2
                  try clear hfz4_3
                  try clear hfz4_4
                  try clear p2
                  try clear p3
                  try clear p30
                  try clear p40
                  try clear p6
                  try clear p9
                  try clear q3
                  try clear q30
                  try clear q40
                  try clear q9
                  obtain ⟨kq, x74_34, rfl, HA, HJ34, BK102, HB⟩ := hcut
                  cases kq with
                  | zero => exact absurd HA.out (by simp [spec_ParseVersion.j3])
                  | succ kj34 =>
                    have H := HA.out
                    clear HA
                    simp only [spec_ParseVersion.j3] at H
                    by_cases c41 : x74_34 = true
                    · subst c41
                      have H1 : (some (0, 0, 0, (⟨#[]⟩ : ByteArray), (⟨#[]⟩ : ByteArray), false)) = some (r1, r2, r3, r4, r5, r6) := by rw [if_pos rfl] at H; exact H
                      clear H
                      have H := H1
                      clear H1
                      as_aux_lemma =>
                        simp only [Option.some.injEq, Prod.mk.injEq] at H
                        obtain ⟨rfl, rfl, rfl, rfl, rfl, rfl⟩ := H
                        have hcz42_0 : wc.cell? ⟨gb102, 0, none⟩ = some (.int .u64 t104) := (blk_cell BK102.out 0).trans rfl
                        have hcz42_1 : wc.cell? ⟨gb102, 1, none⟩ = some (.int .u64 t107) := (blk_cell BK102.out 1).trans rfl
                        have hcz42_2 : wc.cell? ⟨gb102, 2, none⟩ = some (.int .u64 x103002_4) := (blk_cell BK102.out 2).trans rfl
                        have hcz42_3 : wc.cell? ⟨gb102, 3, none⟩ = some (.string x103003_4) := (blk_cell BK102.out 3).trans rfl
                        have hcz42_4 : wc.cell? ⟨gb102, 4, none⟩ = some (.string x103004_4) := (blk_cell BK102.out 4).trans rfl
                        have hfz42_0 := blk_frozen BK102.out 0
                        have hfz42_1 := blk_frozen BK102.out 1
                        have hfz42_2 := blk_frozen BK102.out 2
                        have hfz42_3 := blk_frozen BK102.out 3
                        have hfz42_4 := blk_frozen BK102.out 4
                        go_wp2
                        refine bodyPost_ret (results_ct rfl _ _ gb102 24 #[.int .u64 0, .int .u64 0, .int .u64 0, .string (⟨#[]⟩ : ByteArray), .string (⟨#[]⟩ : ByteArray)] (0, 0) _ rfl (by (with_reducible repeat (first | refine blk_drewN ?_ _ | refine blk_drew ?_ | refine blk_alloc ?_ _)); refine blk_put (cs := #[.int .u64 0, .int .u64 0, .int .u64 0, .string (⟨#[]⟩ : ByteArray), .string x103004_4]) ?_ 4 _ rfl; (with_reducible repeat (first | refine blk_drewN ?_ _ | refine blk_drew ?_ | refine blk_alloc ?_ _)); refine blk_put (cs := #[.int .u64 0, .int .u64 0, .int .u64 0, .string x103003_4, .string x103004_4]) ?_ 3 _ rfl; (with_reducible repeat (first | refine blk_drewN ?_ _ | refine blk_drew ?_ | refine blk_alloc ?_ _)); refine blk_put (cs := #[.int .u64 0, .int .u64 0, .int .u64 x103002_4, .string x103003_4, .string x103004_4]) ?_ 2 _ rfl; (with_reducible repeat (first | refine blk_drewN ?_ _ | refine blk_drew ?_ | refine blk_alloc ?_ _)); refine blk_put (cs := #[.int .u64 0, .int .u64 t107, .int .u64 x103002_4, .string x103003_4, .string x103004_4]) ?_ 1 _ rfl; (with_reducible repeat (first | refine blk_drewN ?_ _ | refine blk_drew ?_ | refine blk_alloc ?_ _)); refine blk_put (cs := #[.int .u64 t104, .int .u64 t107, .int .u64 x103002_4, .string x103003_4, .string x103004_4]) ?_ 0 _ rfl; (with_reducible repeat (first | refine blk_drewN ?_ _ | refine blk_drew ?_ | refine blk_alloc ?_ _)); exact BK102.out) Tryz.underlying24 rfl (by kernel_rfl)) rfl ?_
                        exact ⟨by first | rfl | (simp [errW_none, errW_some] <;> rfl) | (simp [*, errW_none, errW_some] <;> rfl), by repeat (first | (with_reducible first | exact HB.out | apply below_alloc | apply pw_below_drewN | apply below_drew1 | refine below_set ?_ GE102.out) | exact HB.out)⟩
                    · replace c41 := Bool.eq_false_iff.mpr c41
                      subst c41
                      have H1 : (if 1 ≤ (t108.size : Int) then ((spec_number.f kj34 (t108.extract 1 t108.size)).bind fun bt110 => (if bt110.2.2 = true then (if (bt110.2.1.size : Int) > 0 then (if 0 < (bt110.2.1.size : Int) then (if (bt bt110.2.1 0) = 45 then (if 1 ≤ (bt110.2.1.size : Int) then ((spec_parts.f kj34 (bt110.2.1.extract 1 bt110.2.1.size) true).bind fun t113 => (if t113 = true then (some (t104, t107, bt110.1, bt110.2.1.extract 1 bt110.2.1.size, x103004_4, true)) else (some (0, 0, 0, (⟨#[]⟩ : ByteArray), (⟨#[]⟩ : ByteArray), false)))) else (none)) else (some (0, 0, 0, (⟨#[]⟩ : ByteArray), (⟨#[]⟩ : ByteArray), false))) else (none)) else (some (t104, t107, bt110.1, x103003_4, x103004_4, true))) else (some (0, 0, 0, (⟨#[]⟩ : ByteArray), (⟨#[]⟩ : ByteArray), false)))) else (none)) = some (r1, r2, r3, r4, r5, r6) := by rw [if_neg (show ¬ (false = true) by decide)] at H; exact H
                      clear H
                      have H := H1
                      clear H1
                      by_cases c43 : 1 ≤ (t108.size : Int)
                      · rw [if_pos c43] at H
                        have c43b0 := eq_true c43
                        have c43b1 : decide (1 ≤ (t108.size : Int)) = true := decide_eq_true c43
                        clear c43
                        replace H := Option.bind_eq_some_iff.mp H
                        obtain ⟨⟨t110, t111, t112⟩, A440, H⟩ := H
                        replace H : (if t112 = true then (if (t111.size : Int) > 0 then (if 0 < (t111.size : Int) then (if (bt t111 0) = 45 then (if 1 ≤ (t111.size : Int) then ((spec_parts.f kj34 (t111.extract 1 t111.size) true).bind fun t113 => (if t113 = true then (some (t104, t107, t110, t111.extract 1 t111.size, x103004_4, true)) else (some (0, 0, 0, (⟨#[]⟩ : ByteArray), (⟨#[]⟩ : ByteArray), false)))) else (none)) else (some (0, 0, 0, (⟨#[]⟩ : ByteArray), (⟨#[]⟩ : ByteArray), false))) else (none)) else (some (t104, t107, t110, x103003_4, x103004_4, true))) else (some (0, 0, 0, (⟨#[]⟩ : ByteArray), (⟨#[]⟩ : ByteArray), false))) = some (r1, r2, r3, r4, r5, r6) := H
                        have A44 := Aside0.mk A440
                        clear A440
                        by_cases c45 : t112 = true
                        · subst c45
                          have H1 : (if (t111.size : Int) > 0 then (if 0 < (t111.size : Int) then (if (bt t111 0) = 45 then (if 1 ≤ (t111.size : Int) then ((spec_parts.f kj34 (t111.extract 1 t111.size) true).bind fun t113 => (if t113 = true then (some (t104, t107, t110, t111.extract 1 t111.size, x103004_4, true)) else (some (0, 0, 0, (⟨#[]⟩ : ByteArray), (⟨#[]⟩ : ByteArray), false)))) else (none)) else (some (0, 0, 0, (⟨#[]⟩ : ByteArray), (⟨#[]⟩ : ByteArray), false))) else (none)) else (some (t104, t107, t110, x103003_4, x103004_4, true))) = some (r1, r2, r3, r4, r5, r6) := by rw [if_pos rfl] at H; exact H
                          clear H
                          have H := H1
                          clear H1
                          by_cases c46 : (t111.size : Int) > 0
                          · rw [if_pos c46] at H
                            have c46b0 : decide (0 < (t111.size : Int)) = true := decide_eq_true c46
                            have c46b1 : decide (0 < t111.size) = true := decide_eq_true (by omega)
                            clear c46
                            by_cases c47 : 0 < (t111.size : Int)
                            · rw [if_pos c47] at H
                              have c47b0 : decide (0 < (t111.size : Int)) = true := decide_eq_true c47
                              have c47b1 : decide (0 < t111.size) = true := decide_eq_true (by omega)
                              clear c47
                              by_cases c49 : (bt t111 0) = 45
                              · rw [if_pos c49] at H
                                have c49b0 : ((bt t111 0) == 45) = true := beq_iff_eq.mpr c49
                                have c49b1 : ((bt t111 0) != 45) = false := bne_eq_false_iff_eq.mpr c49
                                clear c49
                                by_cases c50 : 1 ≤ (t111.size : Int)
                                · rw [if_pos c50] at H
                                  have c50b0 := eq_true c50
                                  have c50b1 : decide (1 ≤ (t111.size : Int)) = true := decide_eq_true c50
                                  clear c50
                                  replace H := Option.bind_eq_some_iff.mp H
                                  obtain ⟨t113, A510, H⟩ := H
                                  replace H : (if t113 = true then (some (t104, t107, t110, t111.extract 1 t111.size, x103004_4, true)) else (some (0, 0, 0, (⟨#[]⟩ : ByteArray), (⟨#[]⟩ : ByteArray), false))) = some (r1, r2, r3, r4, r5, r6) := H
                                  have A51 := Aside0.mk A510
                                  clear A510
                                  by_cases c52 : t113 = true
                                  · subst c52
                                    have H1 : (some (t104, t107, t110, t111.extract 1 t111.size, x103004_4, true)) = some (r1, r2, r3, r4, r5, r6) := by rw [if_pos rfl] at H; exact H
                                    clear H
                                    have H := H1
                                    clear H1
                                    have c53b0 := eq_true (of_decide_eq_true (by first | (with_reducible assumption) | assumption) : 1 ≤ (t111.size : Int))
                                    as_aux_lemma =>
                                      simp only [Option.some.injEq, Prod.mk.injEq] at H
                                      obtain ⟨rfl, rfl, rfl, rfl, rfl, rfl⟩ := H
                                      go_wp2_with (first | ((with_reducible refine gate_callee (f := 16) rfl ?_); refine goesL_ (some 79) rfl rfl Tryz.func16 (by kernel_rfl) rfl #[.string (t108.extract 1 t108.size)] rfl (by (try simp only [List.map_toArray, List.map_cons, List.map_nil]); first | done | rfl | (simp only [List.length_drop, List.length_take]; rfl)) ?_; (with_reducible refine (spec_number.calls kj34 (t108.extract 1 t108.size) t110 t111 true _ A44.out).mono ?_); rintro e w' ⟨rfl, ⟨nd, rfl⟩⟩; refine ⟨_, rfl, ?_⟩; (try (rw [drewN_self wc]; generalize hq_ : World.drewN wc _ = wc; have n0_ : Aside0 (wc.heap[gb102]? = some (.cells #[.int .u64 t104, .int .u64 t107, .int .u64 x103002_4, .string x103003_4, .string x103004_4] 24 (0, 0))) := ⟨by rw [← hq_]; exact (by (with_reducible repeat (first | refine blk_drewN ?_ _ | refine blk_drew ?_ | refine blk_alloc ?_ _)); exact BK102.out)⟩; have n1_ : Aside0 (Below w.heap.size w wc) := ⟨by rw [← hq_]; exact (by repeat (first | (with_reducible first | exact HB.out | apply below_alloc | apply pw_below_drewN | apply below_drew1 | refine below_set ?_ GE102.out) | exact HB.out))⟩; clear BK102 HB hq_; have BK102 := n0_; have HB := n1_; clear n0_ n1_)); have hcz54_0 : wc.cell? ⟨gb102, 0, none⟩ = some (.int .u64 t104) := (blk_cell BK102.out 0).trans rfl; have hcz54_1 : wc.cell? ⟨gb102, 1, none⟩ = some (.int .u64 t107) := (blk_cell BK102.out 1).trans rfl; have hcz54_2 : wc.cell? ⟨gb102, 2, none⟩ = some (.int .u64 x103002_4) := (blk_cell BK102.out 2).trans rfl; have hcz54_3 : wc.cell? ⟨gb102, 3, none⟩ = some (.string x103003_4) := (blk_cell BK102.out 3).trans rfl; have hcz54_4 : wc.cell? ⟨gb102, 4, none⟩ = some (.string x103004_4) := (blk_cell BK102.out 4).trans rfl; have hfz54_0 := blk_frozen BK102.out 0; have hfz54_1 := blk_frozen BK102.out 1; have hfz54_2 := blk_frozen BK102.out 2; have hfz54_3 := blk_frozen BK102.out 3; have hfz54_4 := blk_frozen BK102.out 4; have p48 : 0 ≤ (0 : Int) := (by omega); have q48 : 0 < t111.size := (by have : (0 : Int) < (t111.size : Int) := of_decide_eq_true (by first | (with_reducible assumption) | assumption); omega); have hx48 : ∀ h : 0 < t111.size, ((t111[0]'h).toNat : Int) = bt t111 0 := bt_at t111 0; clear p48; have qi48 : (0 < (t111.size : Int)) = True := eq_true (of_decide_eq_true (by first | (with_reducible assumption) | assumption)); replace q48 := eq_true q48) | (go_at_call 15; (with_reducible refine (spec_parts.calls kj34 (t111.extract 1 t111.size) true true _ A51.out).mono ?_); rintro e w' ⟨rfl, ⟨nd, rfl⟩⟩))
                                      refine bodyPost_ret (results_ct rfl _ _ gb102 24 #[.int .u64 t104, .int .u64 t107, .int .u64 t110, .string (t111.extract 1 t111.size), .string x103004_4] (0, 0) _ rfl (by (with_reducible repeat (first | refine blk_drewN ?_ _ | refine blk_drew ?_ | refine blk_alloc ?_ _)); refine blk_put (cs := #[.int .u64 t104, .int .u64 t107, .int .u64 t110, .string (t111.extract 1 t111.size), .string x103004_4]) ?_ 4 _ rfl; (with_reducible repeat (first | refine blk_drewN ?_ _ | refine blk_drew ?_ | refine blk_alloc ?_ _)); refine blk_put (cs := #[.int .u64 t104, .int .u64 t107, .int .u64 t110, .string (t111.extract 1 t111.size), .string x103004_4]) ?_ 3 _ rfl; (with_reducible repeat (first | refine blk_drewN ?_ _ | refine blk_drew ?_ | refine blk_alloc ?_ _)); refine blk_put (cs := #[.int .u64 t104, .int .u64 t107, .int .u64 t110, .string (t111.extract 1 t111.size), .string x103004_4]) ?_ 2 _ rfl; (with_reducible repeat (first | refine blk_drewN ?_ _ | refine blk_drew ?_ | refine blk_alloc ?_ _)); refine blk_put (cs := #[.int .u64 t104, .int .u64 t107, .int .u64 t110, .string (t111.extract 1 t111.size), .string x103004_4]) ?_ 1 _ rfl; (with_reducible repeat (first | refine blk_drewN ?_ _ | refine blk_drew ?_ | refine blk_alloc ?_ _)); refine blk_put (cs := #[.int .u64 t104, .int .u64 t107, .int .u64 t110, .string (t111.extract 1 t111.size), .string x103004_4]) ?_ 0 _ rfl; (with_reducible repeat (first | refine blk_drewN ?_ _ | refine blk_drew ?_ | refine blk_alloc ?_ _)); refine blk_put (cs := #[.int .u64 t104, .int .u64 t107, .int .u64 t110, .string x103003_4, .string x103004_4]) ?_ 3 _ rfl; (with_reducible repeat (first | refine blk_drewN ?_ _ | refine blk_drew ?_ | refine blk_alloc ?_ _)); refine blk_put (cs := #[.int .u64 t104, .int .u64 t107, .int .u64 x103002_4, .string x103003_4, .string x103004_4]) ?_ 2 _ rfl; (with_reducible repeat (first | refine blk_drewN ?_ _ | refine blk_drew ?_ | refine blk_alloc ?_ _)); exact BK102.out) Tryz.underlying24 rfl (by kernel_rfl)) rfl ?_
                                      exact ⟨by first | rfl | (simp [errW_none, errW_some] <;> rfl) | (simp [*, errW_none, errW_some] <;> rfl), by repeat (first | (with_reducible first | exact HB.out | apply below_alloc | apply pw_below_drewN | apply below_drew1 | refine below_set ?_ GE102.out) | exact HB.out)⟩
                                  · replace c52 := Bool.eq_false_iff.mpr c52
                                    subst c52
                                    have H1 : (some (0, 0, 0, (⟨#[]⟩ : ByteArray), (⟨#[]⟩ : ByteArray), false)) = some (r1, r2, r3, r4, r5, r6) := by rw [if_neg (show ¬ (false = true) by decide)] at H; exact H
                                    clear H
                                    have H := H1
                                    clear H1
                                    as_aux_lemma =>
                                      simp only [Option.some.injEq, Prod.mk.injEq] at H
                                      obtain ⟨rfl, rfl, rfl, rfl, rfl, rfl⟩ := H
                                      go_wp2_with (first | ((with_reducible refine gate_callee (f := 16) rfl ?_); refine goesL_ (some 79) rfl rfl Tryz.func16 (by kernel_rfl) rfl #[.string (t108.extract 1 t108.size)] rfl (by (try simp only [List.map_toArray, List.map_cons, List.map_nil]); first | done | rfl | (simp only [List.length_drop, List.length_take]; rfl)) ?_; (with_reducible refine (spec_number.calls kj34 (t108.extract 1 t108.size) t110 t111 true _ A44.out).mono ?_); rintro e w' ⟨rfl, ⟨nd, rfl⟩⟩; refine ⟨_, rfl, ?_⟩; (try (rw [drewN_self wc]; generalize hq_ : World.drewN wc _ = wc; have n0_ : Aside0 (wc.heap[gb102]? = some (.cells #[.int .u64 t104, .int .u64 t107, .int .u64 x103002_4, .string x103003_4, .string x103004_4] 24 (0, 0))) := ⟨by rw [← hq_]; exact (by (with_reducible repeat (first | refine blk_drewN ?_ _ | refine blk_drew ?_ | refine blk_alloc ?_ _)); exact BK102.out)⟩; have n1_ : Aside0 (Below w.heap.size w wc) := ⟨by rw [← hq_]; exact (by repeat (first | (with_reducible first | exact HB.out | apply below_alloc | apply pw_below_drewN | apply below_drew1 | refine below_set ?_ GE102.out) | exact HB.out))⟩; clear BK102 HB hq_; have BK102 := n0_; have HB := n1_; clear n0_ n1_)); have hcz55_0 : wc.cell? ⟨gb102, 0, none⟩ = some (.int .u64 t104) := (blk_cell BK102.out 0).trans rfl; have hcz55_1 : wc.cell? ⟨gb102, 1, none⟩ = some (.int .u64 t107) := (blk_cell BK102.out 1).trans rfl; have hcz55_2 : wc.cell? ⟨gb102, 2, none⟩ = some (.int .u64 x103002_4) := (blk_cell BK102.out 2).trans rfl; have hcz55_3 : wc.cell? ⟨gb102, 3, none⟩ = some (.string x103003_4) := (blk_cell BK102.out 3).trans rfl; have hcz55_4 : wc.cell? ⟨gb102, 4, none⟩ = some (.string x103004_4) := (blk_cell BK102.out 4).trans rfl; have hfz55_0 := blk_frozen BK102.out 0; have hfz55_1 := blk_frozen BK102.out 1; have hfz55_2 := blk_frozen BK102.out 2; have hfz55_3 := blk_frozen BK102.out 3; have hfz55_4 := blk_frozen BK102.out 4; have p48 : 0 ≤ (0 : Int) := (by omega); have q48 : 0 < t111.size := (by have : (0 : Int) < (t111.size : Int) := of_decide_eq_true (by first | (with_reducible assumption) | assumption); omega); have hx48 : ∀ h : 0 < t111.size, ((t111[0]'h).toNat : Int) = bt t111 0 := bt_at t111 0; clear p48; have qi48 : (0 < (t111.size : Int)) = True := eq_true (of_decide_eq_true (by first | (with_reducible assumption) | assumption)); replace q48 := eq_true q48) | (go_at_call 15; (with_reducible refine (spec_parts.calls kj34 (t111.extract 1 t111.size) true false _ A51.out).mono ?_); rintro e w' ⟨rfl, ⟨nd, rfl⟩⟩))
                                      refine bodyPost_ret (results_ct rfl _ _ gb102 24 #[.int .u64 0, .int .u64 0, .int .u64 0, .string (⟨#[]⟩ : ByteArray), .string (⟨#[]⟩ : ByteArray)] (0, 0) _ rfl (by (with_reducible repeat (first | refine blk_drewN ?_ _ | refine blk_drew ?_ | refine blk_alloc ?_ _)); refine blk_put (cs := #[.int .u64 0, .int .u64 0, .int .u64 0, .string (⟨#[]⟩ : ByteArray), .string x103004_4]) ?_ 4 _ rfl; (with_reducible repeat (first | refine blk_drewN ?_ _ | refine blk_drew ?_ | refine blk_alloc ?_ _)); refine blk_put (cs := #[.int .u64 0, .int .u64 0, .int .u64 0, .string x103003_4, .string x103004_4]) ?_ 3 _ rfl; (with_reducible repeat (first | refine blk_drewN ?_ _ | refine blk_drew ?_ | refine blk_alloc ?_ _)); refine blk_put (cs := #[.int .u64 0, .int .u64 0, .int .u64 t110, .string x103003_4, .string x103004_4]) ?_ 2 _ rfl; (with_reducible repeat (first | refine blk_drewN ?_ _ | refine blk_drew ?_ | refine blk_alloc ?_ _)); refine blk_put (cs := #[.int .u64 0, .int .u64 t107, .int .u64 t110, .string x103003_4, .string x103004_4]) ?_ 1 _ rfl; (with_reducible repeat (first | refine blk_drewN ?_ _ | refine blk_drew ?_ | refine blk_alloc ?_ _)); refine blk_put (cs := #[.int .u64 t104, .int .u64 t107, .int .u64 t110, .string x103003_4, .string x103004_4]) ?_ 0 _ rfl; (with_reducible repeat (first | refine blk_drewN ?_ _ | refine blk_drew ?_ | refine blk_alloc ?_ _)); refine blk_put (cs := #[.int .u64 t104, .int .u64 t107, .int .u64 x103002_4, .string x103003_4, .string x103004_4]) ?_ 2 _ rfl; (with_reducible repeat (first | refine blk_drewN ?_ _ | refine blk_drew ?_ | refine blk_alloc ?_ _)); exact BK102.out) Tryz.underlying24 rfl (by kernel_rfl)) rfl ?_
                                      exact ⟨by first | rfl | (simp [errW_none, errW_some] <;> rfl) | (simp [*, errW_none, errW_some] <;> rfl), by repeat (first | (with_reducible first | exact HB.out | apply below_alloc | apply pw_below_drewN | apply below_drew1 | refine below_set ?_ GE102.out) | exact HB.out)⟩
                                · rw [if_neg c50] at H
                                  exact absurd H (by simp)
                              · rw [if_neg c49] at H
                                have c49b0 : ((bt t111 0) == 45) = false := beq_eq_false_iff_ne.mpr c49
                                have c49b1 : ((bt t111 0) != 45) = true := bne_iff_ne.mpr c49
                                as_aux_lemma =>
                                  simp only [Option.some.injEq, Prod.mk.injEq] at H
                                  obtain ⟨rfl, rfl, rfl, rfl, rfl, rfl⟩ := H
                                  go_wp2_with (first | ((with_reducible refine gate_callee (f := 16) rfl ?_); refine goesL_ (some 79) rfl rfl Tryz.func16 (by kernel_rfl) rfl #[.string (t108.extract 1 t108.size)] rfl (by (try simp only [List.map_toArray, List.map_cons, List.map_nil]); first | done | rfl | (simp only [List.length_drop, List.length_take]; rfl)) ?_; (with_reducible refine (spec_number.calls kj34 (t108.extract 1 t108.size) t110 t111 true _ A44.out).mono ?_); rintro e w' ⟨rfl, ⟨nd, rfl⟩⟩; refine ⟨_, rfl, ?_⟩; (try (rw [drewN_self wc]; generalize hq_ : World.drewN wc _ = wc; have n0_ : Aside0 (wc.heap[gb102]? = some (.cells #[.int .u64 t104, .int .u64 t107, .int .u64 x103002_4, .string x103003_4, .string x103004_4] 24 (0, 0))) := ⟨by rw [← hq_]; exact (by (with_reducible repeat (first | refine blk_drewN ?_ _ | refine blk_drew ?_ | refine blk_alloc ?_ _)); exact BK102.out)⟩; have n1_ : Aside0 (Below w.heap.size w wc) := ⟨by rw [← hq_]; exact (by repeat (first | (with_reducible first | exact HB.out | apply below_alloc | apply pw_below_drewN | apply below_drew1 | refine below_set ?_ GE102.out) | exact HB.out))⟩; clear BK102 HB hq_; have BK102 := n0_; have HB := n1_; clear n0_ n1_)); have hcz56_0 : wc.cell? ⟨gb102, 0, none⟩ = some (.int .u64 t104) := (blk_cell BK102.out 0).trans rfl; have hcz56_1 : wc.cell? ⟨gb102, 1, none⟩ = some (.int .u64 t107) := (blk_cell BK102.out 1).trans rfl; have hcz56_2 : wc.cell? ⟨gb102, 2, none⟩ = some (.int .u64 x103002_4) := (blk_cell BK102.out 2).trans rfl; have hcz56_3 : wc.cell? ⟨gb102, 3, none⟩ = some (.string x103003_4) := (blk_cell BK102.out 3).trans rfl; have hcz56_4 : wc.cell? ⟨gb102, 4, none⟩ = some (.string x103004_4) := (blk_cell BK102.out 4).trans rfl; have hfz56_0 := blk_frozen BK102.out 0; have hfz56_1 := blk_frozen BK102.out 1; have hfz56_2 := blk_frozen BK102.out 2; have hfz56_3 := blk_frozen BK102.out 3; have hfz56_4 := blk_frozen BK102.out 4; have p48 : 0 ≤ (0 : Int) := (by omega); have q48 : 0 < t111.size := (by have : (0 : Int) < (t111.size : Int) := of_decide_eq_true (by first | (with_reducible assumption) | assumption); omega); have hx48 : ∀ h : 0 < t111.size, ((t111[0]'h).toNat : Int) = bt t111 0 := bt_at t111 0; clear p48; have qi48 : (0 < (t111.size : Int)) = True := eq_true (of_decide_eq_true (by first | (with_reducible assumption) | assumption)); replace q48 := eq_true q48))
                                  refine bodyPost_ret (results_ct rfl _ _ gb102 24 #[.int .u64 0, .int .u64 0, .int .u64 0, .string (⟨#[]⟩ : ByteArray), .string (⟨#[]⟩ : ByteArray)] (0, 0) _ rfl (by (with_reducible repeat (first | refine blk_drewN ?_ _ | refine blk_drew ?_ | refine blk_alloc ?_ _)); refine blk_put (cs := #[.int .u64 0, .int .u64 0, .int .u64 0, .string (⟨#[]⟩ : ByteArray), .string x103004_4]) ?_ 4 _ rfl; (with_reducible repeat (first | refine blk_drewN ?_ _ | refine blk_drew ?_ | refine blk_alloc ?_ _)); refine blk_put (cs := #[.int .u64 0, .int .u64 0, .int .u64 0, .string x103003_4, .string x103004_4]) ?_ 3 _ rfl; (with_reducible repeat (first | refine blk_drewN ?_ _ | refine blk_drew ?_ | refine blk_alloc ?_ _)); refine blk_put (cs := #[.int .u64 0, .int .u64 0, .int .u64 t110, .string x103003_4, .string x103004_4]) ?_ 2 _ rfl; (with_reducible repeat (first | refine blk_drewN ?_ _ | refine blk_drew ?_ | refine blk_alloc ?_ _)); refine blk_put (cs := #[.int .u64 0, .int .u64 t107, .int .u64 t110, .string x103003_4, .string x103004_4]) ?_ 1 _ rfl; (with_reducible repeat (first | refine blk_drewN ?_ _ | refine blk_drew ?_ | refine blk_alloc ?_ _)); refine blk_put (cs := #[.int .u64 t104, .int .u64 t107, .int .u64 t110, .string x103003_4, .string x103004_4]) ?_ 0 _ rfl; (with_reducible repeat (first | refine blk_drewN ?_ _ | refine blk_drew ?_ | refine blk_alloc ?_ _)); refine blk_put (cs := #[.int .u64 t104, .int .u64 t107, .int .u64 x103002_4, .string x103003_4, .string x103004_4]) ?_ 2 _ rfl; (with_reducible repeat (first | refine blk_drewN ?_ _ | refine blk_drew ?_ | refine blk_alloc ?_ _)); exact BK102.out) Tryz.underlying24 rfl (by kernel_rfl)) rfl ?_
                                  exact ⟨by first | rfl | (simp [errW_none, errW_some] <;> rfl) | (simp [*, errW_none, errW_some] <;> rfl), by repeat (first | (with_reducible first | exact HB.out | apply below_alloc | apply pw_below_drewN | apply below_drew1 | refine below_set ?_ GE102.out) | exact HB.out)⟩
                            · rw [if_neg c47] at H
                              exact absurd H (by simp)
                          · rw [if_neg c46] at H
                            have c46b0 : decide (0 < (t111.size : Int)) = false := decide_eq_false c46
                            have c46b1 : decide (0 < t111.size) = false := decide_eq_false (by omega)
                            clear c46
                            as_aux_lemma =>
                              simp only [Option.some.injEq, Prod.mk.injEq] at H
                              obtain ⟨rfl, rfl, rfl, rfl, rfl, rfl⟩ := H
                              go_wp2_with (first | ((with_reducible refine gate_callee (f := 16) rfl ?_); refine goesL_ (some 79) rfl rfl Tryz.func16 (by kernel_rfl) rfl #[.string (t108.extract 1 t108.size)] rfl (by (try simp only [List.map_toArray, List.map_cons, List.map_nil]); first | done | rfl | (simp only [List.length_drop, List.length_take]; rfl)) ?_; (with_reducible refine (spec_number.calls kj34 (t108.extract 1 t108.size) t110 t111 true _ A44.out).mono ?_); rintro e w' ⟨rfl, ⟨nd, rfl⟩⟩; refine ⟨_, rfl, ?_⟩; (try (rw [drewN_self wc]; generalize hq_ : World.drewN wc _ = wc; have n0_ : Aside0 (wc.heap[gb102]? = some (.cells #[.int .u64 t104, .int .u64 t107, .int .u64 x103002_4, .string x103003_4, .string x103004_4] 24 (0, 0))) := ⟨by rw [← hq_]; exact (by (with_reducible repeat (first | refine blk_drewN ?_ _ | refine blk_drew ?_ | refine blk_alloc ?_ _)); exact BK102.out)⟩; have n1_ : Aside0 (Below w.heap.size w wc) := ⟨by rw [← hq_]; exact (by repeat (first | (with_reducible first | exact HB.out | apply below_alloc | apply pw_below_drewN | apply below_drew1 | refine below_set ?_ GE102.out) | exact HB.out))⟩; clear BK102 HB hq_; have BK102 := n0_; have HB := n1_; clear n0_ n1_)); have hcz57_0 : wc.cell? ⟨gb102, 0, none⟩ = some (.int .u64 t104) := (blk_cell BK102.out 0).trans rfl; have hcz57_1 : wc.cell? ⟨gb102, 1, none⟩ = some (.int .u64 t107) := (blk_cell BK102.out 1).trans rfl; have hcz57_2 : wc.cell? ⟨gb102, 2, none⟩ = some (.int .u64 x103002_4) := (blk_cell BK102.out 2).trans rfl; have hcz57_3 : wc.cell? ⟨gb102, 3, none⟩ = some (.string x103003_4) := (blk_cell BK102.out 3).trans rfl; have hcz57_4 : wc.cell? ⟨gb102, 4, none⟩ = some (.string x103004_4) := (blk_cell BK102.out 4).trans rfl; have hfz57_0 := blk_frozen BK102.out 0; have hfz57_1 := blk_frozen BK102.out 1; have hfz57_2 := blk_frozen BK102.out 2; have hfz57_3 := blk_frozen BK102.out 3; have hfz57_4 := blk_frozen BK102.out 4))
                              refine bodyPost_ret (results_ct rfl _ _ gb102 24 #[.int .u64 t104, .int .u64 t107, .int .u64 t110, .string x103003_4, .string x103004_4] (0, 0) _ rfl (by (with_reducible repeat (first | refine blk_drewN ?_ _ | refine blk_drew ?_ | refine blk_alloc ?_ _)); refine blk_put (cs := #[.int .u64 t104, .int .u64 t107, .int .u64 t110, .string x103003_4, .string x103004_4]) ?_ 4 _ rfl; (with_reducible repeat (first | refine blk_drewN ?_ _ | refine blk_drew ?_ | refine blk_alloc ?_ _)); refine blk_put (cs := #[.int .u64 t104, .int .u64 t107, .int .u64 t110, .string x103003_4, .string x103004_4]) ?_ 3 _ rfl; (with_reducible repeat (first | refine blk_drewN ?_ _ | refine blk_drew ?_ | refine blk_alloc ?_ _)); refine blk_put (cs := #[.int .u64 t104, .int .u64 t107, .int .u64 t110, .string x103003_4, .string x103004_4]) ?_ 2 _ rfl; (with_reducible repeat (first | refine blk_drewN ?_ _ | refine blk_drew ?_ | refine blk_alloc ?_ _)); refine blk_put (cs := #[.int .u64 t104, .int .u64 t107, .int .u64 t110, .string x103003_4, .string x103004_4]) ?_ 1 _ rfl; (with_reducible repeat (first | refine blk_drewN ?_ _ | refine blk_drew ?_ | refine blk_alloc ?_ _)); refine blk_put (cs := #[.int .u64 t104, .int .u64 t107, .int .u64 t110, .string x103003_4, .string x103004_4]) ?_ 0 _ rfl; (with_reducible repeat (first | refine blk_drewN ?_ _ | refine blk_drew ?_ | refine blk_alloc ?_ _)); refine blk_put (cs := #[.int .u64 t104, .int .u64 t107, .int .u64 x103002_4, .string x103003_4, .string x103004_4]) ?_ 2 _ rfl; (with_reducible repeat (first | refine blk_drewN ?_ _ | refine blk_drew ?_ | refine blk_alloc ?_ _)); exact BK102.out) Tryz.underlying24 rfl (by kernel_rfl)) rfl ?_
                              exact ⟨by first | rfl | (simp [errW_none, errW_some] <;> rfl) | (simp [*, errW_none, errW_some] <;> rfl), by repeat (first | (with_reducible first | exact HB.out | apply below_alloc | apply pw_below_drewN | apply below_drew1 | refine below_set ?_ GE102.out) | exact HB.out)⟩
                        · replace c45 := Bool.eq_false_iff.mpr c45
                          subst c45
                          have H1 : (some (0, 0, 0, (⟨#[]⟩ : ByteArray), (⟨#[]⟩ : ByteArray), false)) = some (r1, r2, r3, r4, r5, r6) := by rw [if_neg (show ¬ (false = true) by decide)] at H; exact H
                          clear H
                          have H := H1
                          clear H1
                          as_aux_lemma =>
                            simp only [Option.some.injEq, Prod.mk.injEq] at H
                            obtain ⟨rfl, rfl, rfl, rfl, rfl, rfl⟩ := H
                            go_wp2_with (first | ((with_reducible refine gate_callee (f := 16) rfl ?_); refine goesL_ (some 79) rfl rfl Tryz.func16 (by kernel_rfl) rfl #[.string (t108.extract 1 t108.size)] rfl (by (try simp only [List.map_toArray, List.map_cons, List.map_nil]); first | done | rfl | (simp only [List.length_drop, List.length_take]; rfl)) ?_; (with_reducible refine (spec_number.calls kj34 (t108.extract 1 t108.size) t110 t111 false _ A44.out).mono ?_); rintro e w' ⟨rfl, ⟨nd, rfl⟩⟩; refine ⟨_, rfl, ?_⟩; (try (rw [drewN_self wc]; generalize hq_ : World.drewN wc _ = wc; have n0_ : Aside0 (wc.heap[gb102]? = some (.cells #[.int .u64 t104, .int .u64 t107, .int .u64 x103002_4, .string x103003_4, .string x103004_4] 24 (0, 0))) := ⟨by rw [← hq_]; exact (by (with_reducible repeat (first | refine blk_drewN ?_ _ | refine blk_drew ?_ | refine blk_alloc ?_ _)); exact BK102.out)⟩; have n1_ : Aside0 (Below w.heap.size w wc) := ⟨by rw [← hq_]; exact (by repeat (first | (with_reducible first | exact HB.out | apply below_alloc | apply pw_below_drewN | apply below_drew1 | refine below_set ?_ GE102.out) | exact HB.out))⟩; clear BK102 HB hq_; have BK102 := n0_; have HB := n1_; clear n0_ n1_)); have hcz58_0 : wc.cell? ⟨gb102, 0, none⟩ = some (.int .u64 t104) := (blk_cell BK102.out 0).trans rfl; have hcz58_1 : wc.cell? ⟨gb102, 1, none⟩ = some (.int .u64 t107) := (blk_cell BK102.out 1).trans rfl; have hcz58_2 : wc.cell? ⟨gb102, 2, none⟩ = some (.int .u64 x103002_4) := (blk_cell BK102.out 2).trans rfl; have hcz58_3 : wc.cell? ⟨gb102, 3, none⟩ = some (.string x103003_4) := (blk_cell BK102.out 3).trans rfl; have hcz58_4 : wc.cell? ⟨gb102, 4, none⟩ = some (.string x103004_4) := (blk_cell BK102.out 4).trans rfl; have hfz58_0 := blk_frozen BK102.out 0; have hfz58_1 := blk_frozen BK102.out 1; have hfz58_2 := blk_frozen BK102.out 2; have hfz58_3 := blk_frozen BK102.out 3; have hfz58_4 := blk_frozen BK102.out 4))
                            refine bodyPost_ret (results_ct rfl _ _ gb102 24 #[.int .u64 0, .int .u64 0, .int .u64 0, .string (⟨#[]⟩ : ByteArray), .string (⟨#[]⟩ : ByteArray)] (0, 0) _ rfl (by (with_reducible repeat (first | refine blk_drewN ?_ _ | refine blk_drew ?_ | refine blk_alloc ?_ _)); refine blk_put (cs := #[.int .u64 0, .int .u64 0, .int .u64 0, .string (⟨#[]⟩ : ByteArray), .string x103004_4]) ?_ 4 _ rfl; (with_reducible repeat (first | refine blk_drewN ?_ _ | refine blk_drew ?_ | refine blk_alloc ?_ _)); refine blk_put (cs := #[.int .u64 0, .int .u64 0, .int .u64 0, .string x103003_4, .string x103004_4]) ?_ 3 _ rfl; (with_reducible repeat (first | refine blk_drewN ?_ _ | refine blk_drew ?_ | refine blk_alloc ?_ _)); refine blk_put (cs := #[.int .u64 0, .int .u64 0, .int .u64 t110, .string x103003_4, .string x103004_4]) ?_ 2 _ rfl; (with_reducible repeat (first | refine blk_drewN ?_ _ | refine blk_drew ?_ | refine blk_alloc ?_ _)); refine blk_put (cs := #[.int .u64 0, .int .u64 t107, .int .u64 t110, .string x103003_4, .string x103004_4]) ?_ 1 _ rfl; (with_reducible repeat (first | refine blk_drewN ?_ _ | refine blk_drew ?_ | refine blk_alloc ?_ _)); refine blk_put (cs := #[.int .u64 t104, .int .u64 t107, .int .u64 t110, .string x103003_4, .string x103004_4]) ?_ 0 _ rfl; (with_reducible repeat (first | refine blk_drewN ?_ _ | refine blk_drew ?_ | refine blk_alloc ?_ _)); refine blk_put (cs := #[.int .u64 t104, .int .u64 t107, .int .u64 x103002_4, .string x103003_4, .string x103004_4]) ?_ 2 _ rfl; (with_reducible repeat (first | refine blk_drewN ?_ _ | refine blk_drew ?_ | refine blk_alloc ?_ _)); exact BK102.out) Tryz.underlying24 rfl (by kernel_rfl)) rfl ?_
                            exact ⟨by first | rfl | (simp [errW_none, errW_some] <;> rfl) | (simp [*, errW_none, errW_some] <;> rfl), by repeat (first | (with_reducible first | exact HB.out | apply below_alloc | apply pw_below_drewN | apply below_drew1 | refine below_set ?_ GE102.out) | exact HB.out)⟩
                      · rw [if_neg c43] at H
                        exact absurd H (by simp)
              · rw [if_neg c33] at H
                exact absurd H (by simp)

end Go.Proofs.YtlhijjfbcgconaaGreatDoor.P

