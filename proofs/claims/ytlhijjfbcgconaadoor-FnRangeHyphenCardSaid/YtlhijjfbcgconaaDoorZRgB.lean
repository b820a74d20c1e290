/- Texts joined: Rg6, Rg7, Rg8. -/
import Derived.Test.YtlhijjfbcgconaaDoorZRg5
import Derived.Test.YtlhijjfbcgconaaDoorZSoM
import Derived.Test.YtlhijjfbcgconaaDoorZSv
import Derived.LaidEqlPtr
import Derived.Test.YtlhijjfbcgconaaDoorZQR2

/- Constraints: a version held to one (tilde, and a plain version). -/
set_option linter.unusedVariables false
set_option linter.unusedSimpArgs false
namespace Go.Proofs.YtlhijjfbcgconaaDoor.P
open Go.RowKit Go.Proofs.YtlhijjfbcgconaaDoorW.PrintWords Go.Proofs.YtlhijjfbcgconaaDoorW.PrintLast Go.Proofs.YtlhijjfbcgconaaDoorW.PrintMore

/-- A version, a constraint and its version in memory. -/
structure Mem (W : World) (qv g q : Nat) (a1 a2 a3 b1 b2 b3 : Int) (pa ma oa pb mb ob orig op : ByteArray) (md dd pd : Bool) : Prop where
  v : W.heap[qv]? = some (.cells (verCells a1 a2 a3 pa ma oa) 69 (0, 0))
  c : W.heap[q]? = some (.cells (verCells b1 b2 b3 pb mb ob) 69 (0, 0))
  g : W.heap[g]? = some (.cells (consCells q orig op md dd pd) 120 (0, 0))
theorem Mem.below {W W2 : World} {qv g q : Nat} {a1 a2 a3 b1 b2 b3 : Int} {pa ma oa pb mb ob orig op : ByteArray} {md dd pd : Bool} (h : Mem W qv g q a1 a2 a3 b1 b2 b3 pa ma oa pb mb ob orig op md dd pd) (hb : Below W.heap.size W W2) : Mem W2 qv g q a1 a2 a3 b1 b2 b3 pa ma oa pb mb ob orig op md dd pd := ⟨blk_below h.v hb, blk_below h.c hb, blk_below h.g hb⟩
end Go.Proofs.YtlhijjfbcgconaaDoor.P


/- Constraints: the tests and their choice. -/
set_option linter.unusedVariables false
set_option linter.unusedSimpArgs false
namespace Go.Proofs.YtlhijjfbcgconaaDoor.P
open Go.RowKit Go.Proofs.YtlhijjfbcgconaaDoorW.PrintWords Go.Proofs.YtlhijjfbcgconaaDoorW.PrintLast Go.Proofs.YtlhijjfbcgconaaDoorW.PrintMore

set_option maxHeartbeats 3200000 in
set_option maxRecDepth 100000 in
theorem gte_call {qv g q : Nat} {a1 a2 a3 b1 b2 b3 : Int} {pa ma oa pb mb ob orig op : ByteArray} {md dd pd : Bool} {C : Int} (ip : Bool)  (w : World) (hm : Mem w qv g q a1 a2 a3 b1 b2 b3 pa ma oa pb mb ob orig op md dd pd) (hip : pa.size = 0 ∨ ip = true) (hcmp : ∀ W, Below w.heap.size w W → Calls Tryd.prog 35 #[.pointer (some ⟨qv, 0, none⟩), .pointer (some ⟨q, 0, none⟩)] W fun e w' => e = .returned (.int .i64 C) ∧ Below W.heap.size W w') :
    Calls Tryd.prog 120 #[.pointer (some ⟨qv, 0, none⟩), .pointer (some ⟨g, 0, none⟩), .bool ip] w fun e w' => (∃ er, e = .returned (.tuple #[.bool (decide (C ≥ 0)), er])) ∧ Below w.heap.size w w' := by
  have HM0 := Lib.hid hm
  have HC := Lib.hid hcmp
  have HB0 := Lib.hid (Below.refl w.heap.size w)
  obtain ⟨R, hR⟩ : ∃ R, R = (decide (C ≥ 0)) := ⟨_, rfl⟩
  have HR := Lib.hid hR
  clear hm hcmp
  rw [← hR]
  clear hR
  go_enter Tryd.func120, Tryd.ntmps120
  have y0 := blk_cell HM0.out.v 0
  have y1 := blk_cell HM0.out.v 1
  have y2 := blk_cell HM0.out.v 2
  have y3 := blk_cell HM0.out.v 3
  have y4 := blk_cell HM0.out.v 4
  have y5 := blk_cell HM0.out.v 5
  simp only [verCells, List.getElem?_toArray, List.getElem?_cons_zero, List.getElem?_cons_succ] at y0 y1 y2 y3 y4 y5
  go_upto_region 1 with fail
  go_cut [17] from 9 to 17 (fun v wc => v = .bool false ∧ Hid (Mem wc qv g q a1 a2 a3 b1 b2 b3 pa ma oa pb mb ob orig op md dd pd) ∧ Hid (Below w.heap.size w wc))
  case first =>
    go_wp2_with fail
    refine (verPrerelease_call a1 a2 a3 pa ma oa _).mono ?_
    rintro e1 w1 ⟨rfl, hb⟩
    have HM1 := Lib.hid (HM0.out.below hb)
    have HB1 := Lib.hid (HB0.out.trans (hb.mono HB0.out.size))
    clear hb HM0 HB0
    clear y0 y1 y2 y3 y4 y5
    rcases hip with hip | hip
    · have hn : (pa.toList == []) = true := by rw [show pa = ⟨#[]⟩ from ba_ext (List.eq_nil_of_length_eq_zero (by rw [size_list]; exact hip))]; decide +kernel
      have hn2 : (pa.toList != []) = false := by rw [bne, hn]; rfl
      have hn3 : pa.toList.isEmpty = true := by rw [show pa = ⟨#[]⟩ from ba_ext (List.eq_nil_of_length_eq_zero (by rw [size_list]; exact hip))]; decide +kernel
      clear hip
      go_wp2
      go_meet
      case rel => exact ⟨rfl, HM1, HB1⟩
    · subst hip
      by_cases hz : pa.size = 0
      · have hn3 : pa.toList.isEmpty = true := by rw [show pa = ⟨#[]⟩ from ba_ext (List.eq_nil_of_length_eq_zero (by rw [size_list]; exact hz))]; decide +kernel
        go_wp2
        go_meet
        case rel => exact ⟨rfl, HM1, HB1⟩
      · have hn3 := full_t (show 0 < pa.size by omega)
        go_wp2
        go_meet
        case rel => exact ⟨rfl, HM1, HB1⟩
  case rest =>
  clear y0 y1 y2 y3 y4 y5
  clear HM0 HB0 hip
  obtain ⟨rfl, HM1, HB1⟩ := hcut
  have z0 := blk_cell HM1.out.g 0
  have z1 := blk_cell HM1.out.g 1
  have z2 := blk_cell HM1.out.g 2
  have z3 := blk_cell HM1.out.g 3
  have z4 := blk_cell HM1.out.g 4
  have z5 := blk_cell HM1.out.g 5
  simp only [consCells, List.getElem?_toArray, List.getElem?_cons_zero, List.getElem?_cons_succ] at z0 z1 z2 z3 z4 z5
  go_wp2_with fail
  refine (HC.out _ HB1.out).mono ?_
  rintro e2 w2 ⟨rfl, hb⟩
  have HM2 := Lib.hid (HM1.out.below hb)
  have HB2 := Lib.hid (HB1.out.trans (hb.mono HB1.out.size))
  clear hb HM1 HB1
  clear z0 z1 z2 z3 z4 z5
  by_cases hC : C ≥ 0
  · have d1 : decide (C ≥ 0) = true := decide_eq_true hC
    have HR2 := Lib.hid (show R = true by rw [HR.out]; exact d1)
    (try rw [d1])
    clear HR
    have HR := HR2
    clear HR2 hC
    go_wp2
    go_ret2
    exact ⟨⟨_, by rw [HR.out]; rfl⟩, HB2.out⟩
  · have d1 : decide (C ≥ 0) = false := decide_eq_false hC
    have HR2 := Lib.hid (show R = false by rw [HR.out]; exact d1)
    (try rw [d1])
    clear HR
    have HR := HR2
    clear HR2 hC
    go_wp2_with (go_at_call 65; refine (errors_New.calls _ _).mono ?_; rintro e99 w99 ⟨⟨x99, rfl⟩, hb⟩)
    go_ret2
    exact ⟨⟨_, by rw [HR.out]; rfl⟩, HB2.out.trans (hb.mono HB2.out.size)⟩
set_option maxHeartbeats 3200000 in
set_option maxRecDepth 100000 in
theorem lte_call {qv g q : Nat} {a1 a2 a3 b1 b2 b3 : Int} {pa ma oa pb mb ob orig op : ByteArray} {md dd pd : Bool} {C : Int} (ip : Bool) (hdd : dd = false)  (w : World) (hm : Mem w qv g q a1 a2 a3 b1 b2 b3 pa ma oa pb mb ob orig op md dd pd) (hip : pa.size = 0 ∨ ip = true) (hcmp : ∀ W, Below w.heap.size w W → Calls Tryd.prog 35 #[.pointer (some ⟨qv, 0, none⟩), .pointer (some ⟨q, 0, none⟩)] W fun e w' => e = .returned (.int .i64 C) ∧ Below W.heap.size W w') :
    Calls Tryd.prog 121 #[.pointer (some ⟨qv, 0, none⟩), .pointer (some ⟨g, 0, none⟩), .bool ip] w fun e w' => (∃ er, e = .returned (.tuple #[.bool (decide (C ≤ 0)), er])) ∧ Below w.heap.size w w' := by
  have HM0 := Lib.hid hm
  have HC := Lib.hid hcmp
  have HB0 := Lib.hid (Below.refl w.heap.size w)
  obtain ⟨R, hR⟩ : ∃ R, R = (decide (C ≤ 0)) := ⟨_, rfl⟩
  have HR := Lib.hid hR
  clear hm hcmp
  rw [← hR]
  clear hR
  subst hdd
  go_enter Tryd.func121, Tryd.ntmps121
  have y0 := blk_cell HM0.out.v 0
  have y1 := blk_cell HM0.out.v 1
  have y2 := blk_cell HM0.out.v 2
  have y3 := blk_cell HM0.out.v 3
  have y4 := blk_cell HM0.out.v 4
  have y5 := blk_cell HM0.out.v 5
  simp only [verCells, List.getElem?_toArray, List.getElem?_cons_zero, List.getElem?_cons_succ] at y0 y1 y2 y3 y4 y5
  go_upto_region 1 with fail
  go_cut [17] from 9 to 17 (fun v wc => v = .bool false ∧ Hid (Mem wc qv g q a1 a2 a3 b1 b2 b3 pa ma oa pb mb ob orig op md false pd) ∧ Hid (Below w.heap.size w wc))
  case first =>
    go_wp2_with fail
    refine (verPrerelease_call a1 a2 a3 pa ma oa _).mono ?_
    rintro e1 w1 ⟨rfl, hb⟩
    have HM1 := Lib.hid (HM0.out.below hb)
    have HB1 := Lib.hid (HB0.out.trans (hb.mono HB0.out.size))
    clear hb HM0 HB0
    clear y0 y1 y2 y3 y4 y5
    rcases hip with hip | hip
    · have hn : (pa.toList == []) = true := by rw [show pa = ⟨#[]⟩ from ba_ext (List.eq_nil_of_length_eq_zero (by rw [size_list]; exact hip))]; decide +kernel
      have hn2 : (pa.toList != []) = false := by rw [bne, hn]; rfl
      have hn3 : pa.toList.isEmpty = true := by rw [show pa = ⟨#[]⟩ from ba_ext (List.eq_nil_of_length_eq_zero (by rw [size_list]; exact hip))]; decide +kernel
      clear hip
      go_wp2
      go_meet
      case rel => exact ⟨rfl, HM1, HB1⟩
    · subst hip
      by_cases hz : pa.size = 0
      · have hn3 : pa.toList.isEmpty = true := by rw [show pa = ⟨#[]⟩ from ba_ext (List.eq_nil_of_length_eq_zero (by rw [size_list]; exact hz))]; decide +kernel
        go_wp2
        go_meet
        case rel => exact ⟨rfl, HM1, HB1⟩
      · have hn3 := full_t (show 0 < pa.size by omega)
        go_wp2
        go_meet
        case rel => exact ⟨rfl, HM1, HB1⟩
  case rest =>
  clear y0 y1 y2 y3 y4 y5
  clear HM0 HB0 hip
  obtain ⟨rfl, HM1, HB1⟩ := hcut
  have z0 := blk_cell HM1.out.g 0
  have z1 := blk_cell HM1.out.g 1
  have z2 := blk_cell HM1.out.g 2
  have z3 := blk_cell HM1.out.g 3
  have z4 := blk_cell HM1.out.g 4
  have z5 := blk_cell HM1.out.g 5
  simp only [consCells, List.getElem?_toArray, List.getElem?_cons_zero, List.getElem?_cons_succ] at z0 z1 z2 z3 z4 z5
  go_wp2_with fail
  refine (HC.out _ HB1.out).mono ?_
  rintro e2 w2 ⟨rfl, hb⟩
  have HM2 := Lib.hid (HM1.out.below hb)
  have HB2 := Lib.hid (HB1.out.trans (hb.mono HB1.out.size))
  clear hb HM1 HB1
  clear z0 z1 z2 z3 z4 z5
  by_cases hC : C ≤ 0
  · have d1 : decide (C ≤ 0) = true := decide_eq_true hC
    have HR2 := Lib.hid (show R = true by rw [HR.out]; exact d1)
    (try rw [d1])
    clear HR
    have HR := HR2
    clear HR2 hC
    go_wp2
    go_ret2
    exact ⟨⟨_, by rw [HR.out]; rfl⟩, HB2.out⟩
  · have d1 : decide (C ≤ 0) = false := decide_eq_false hC
    have HR2 := Lib.hid (show R = false by rw [HR.out]; exact d1)
    (try rw [d1])
    clear HR
    have HR := HR2
    clear HR2 hC
    go_wp2_with (go_at_call 65; refine (errors_New.calls _ _).mono ?_; rintro e99 w99 ⟨⟨x99, rfl⟩, hb⟩)
    go_ret2
    exact ⟨⟨_, by rw [HR.out]; rfl⟩, HB2.out.trans (hb.mono HB2.out.size)⟩
end Go.Proofs.YtlhijjfbcgconaaDoor.P


/- Constraints: the choice of the test. -/
set_option linter.unusedVariables false
set_option linter.unusedSimpArgs false
namespace Go.Proofs.YtlhijjfbcgconaaDoor.P
open Go.RowKit Go.Proofs.YtlhijjfbcgconaaDoorW.PrintWords Go.Proofs.YtlhijjfbcgconaaDoorW.PrintLast Go.Proofs.YtlhijjfbcgconaaDoorW.PrintMore

set_option maxHeartbeats 3200000 in
set_option maxRecDepth 100000 in
theorem zzOp_5 (w : World) : Calls Tryd.prog 111 #[.string (opAt 5)] w fun e w' => e = .returned (.func (.func 120) #[] #[]) ∧ Below w.heap.size w w' := by
  show Calls Tryd.prog 111 #[.string ⟨#[62, 61]⟩] w _
  go_enter Tryd.func111, Tryd.ntmps111
  go_wp2
  go_ret
  exact ⟨rfl, Below.refl _ _⟩
set_option maxHeartbeats 3200000 in
set_option maxRecDepth 100000 in
theorem zzOp_7 (w : World) : Calls Tryd.prog 111 #[.string (opAt 7)] w fun e w' => e = .returned (.func (.func 121) #[] #[]) ∧ Below w.heap.size w w' := by
  show Calls Tryd.prog 111 #[.string ⟨#[60, 61]⟩] w _
  go_enter Tryd.func111, Tryd.ntmps111
  go_wp2
  go_ret
  exact ⟨rfl, Below.refl _ _⟩
set_option maxHeartbeats 3200000 in
set_option maxRecDepth 100000 in
theorem check_GreaterThanEqual {qv g q : Nat} {a1 a2 a3 b1 b2 b3 : Int} {pa ma oa pb mb ob orig op : ByteArray} {md dd pd : Bool} {B : Bool} (ip : Bool) (w : World) (hm : Mem w qv g q a1 a2 a3 b1 b2 b3 pa ma oa pb mb ob orig op md dd pd)
    (hop : ∀ W, Calls Tryd.prog 111 #[.string op] W fun e w' => e = .returned (.func (.func 120) #[] #[]) ∧ Below W.heap.size W w')
    (hf : ∀ W, Mem W qv g q a1 a2 a3 b1 b2 b3 pa ma oa pb mb ob orig op md dd pd → Below w.heap.size w W → Calls Tryd.prog 120 #[.pointer (some ⟨qv, 0, none⟩), .pointer (some ⟨g, 0, none⟩), .bool ip] W fun e w' => (∃ er, e = .returned (.tuple #[.bool B, er])) ∧ Below W.heap.size W w') :
    Calls Tryd.prog 96 #[.pointer (some ⟨g, 0, none⟩), .pointer (some ⟨qv, 0, none⟩), .bool ip] w fun e w' => (∃ er, e = .returned (.tuple #[.bool B, er])) ∧ Below w.heap.size w w' := by
  have HM0 := Lib.hid hm
  have HO := Lib.hid hop
  have HF := Lib.hid hf
  have HB0 := Lib.hid (Below.refl w.heap.size w)
  clear hm hop hf
  go_enter Tryd.func96, Tryd.ntmps96
  have z0 := blk_cell HM0.out.g 0
  have z1 := blk_cell HM0.out.g 1
  have z2 := blk_cell HM0.out.g 2
  have z3 := blk_cell HM0.out.g 3
  have z4 := blk_cell HM0.out.g 4
  have z5 := blk_cell HM0.out.g 5
  simp only [consCells, List.getElem?_toArray, List.getElem?_cons_zero, List.getElem?_cons_succ] at z0 z1 z2 z3 z4 z5
  go_wp2_with fail
  refine (HO.out _).mono ?_
  rintro e1 w1 ⟨rfl, hb⟩
  have HM1 := Lib.hid (HM0.out.below hb)
  have HB1 := Lib.hid (HB0.out.trans (hb.mono HB0.out.size))
  clear hb HM0 HB0
  clear z0 z1 z2 z3 z4 z5
  go_wp2_with fail
  refine (HF.out _ HM1.out HB1.out).mono ?_
  rintro e2 w2 ⟨⟨er, rfl⟩, hb⟩
  have HB2 := Lib.hid (HB1.out.trans (hb.mono HB1.out.size))
  clear hb HB1 HM1
  go_wp2
  go_ret2
  exact ⟨⟨_, rfl⟩, HB2.out⟩
set_option maxHeartbeats 3200000 in
set_option maxRecDepth 100000 in
theorem check_LessThanEqual {qv g q : Nat} {a1 a2 a3 b1 b2 b3 : Int} {pa ma oa pb mb ob orig op : ByteArray} {md dd pd : Bool} {B : Bool} (ip : Bool) (w : World) (hm : Mem w qv g q a1 a2 a3 b1 b2 b3 pa ma oa pb mb ob orig op md dd pd)
    (hop : ∀ W, Calls Tryd.prog 111 #[.string op] W fun e w' => e = .returned (.func (.func 121) #[] #[]) ∧ Below W.heap.size W w')
    (hf : ∀ W, Mem W qv g q a1 a2 a3 b1 b2 b3 pa ma oa pb mb ob orig op md dd pd → Below w.heap.size w W → Calls Tryd.prog 121 #[.pointer (some ⟨qv, 0, none⟩), .pointer (some ⟨g, 0, none⟩), .bool ip] W fun e w' => (∃ er, e = .returned (.tuple #[.bool B, er])) ∧ Below W.heap.size W w') :
    Calls Tryd.prog 96 #[.pointer (some ⟨g, 0, none⟩), .pointer (some ⟨qv, 0, none⟩), .bool ip] w fun e w' => (∃ er, e = .returned (.tuple #[.bool B, er])) ∧ Below w.heap.size w w' := by
  have HM0 := Lib.hid hm
  have HO := Lib.hid hop
  have HF := Lib.hid hf
  have HB0 := Lib.hid (Below.refl w.heap.size w)
  clear hm hop hf
  go_enter Tryd.func96, Tryd.ntmps96
  have z0 := blk_cell HM0.out.g 0
  have z1 := blk_cell HM0.out.g 1
  have z2 := blk_cell HM0.out.g 2
  have z3 := blk_cell HM0.out.g 3
  have z4 := blk_cell HM0.out.g 4
  have z5 := blk_cell HM0.out.g 5
  simp only [consCells, List.getElem?_toArray, List.getElem?_cons_zero, List.getElem?_cons_succ] at z0 z1 z2 z3 z4 z5
  go_wp2_with fail
  refine (HO.out _).mono ?_
  rintro e1 w1 ⟨rfl, hb⟩
  have HM1 := Lib.hid (HM0.out.below hb)
  have HB1 := Lib.hid (HB0.out.trans (hb.mono HB0.out.size))
  clear hb HM0 HB0
  clear z0 z1 z2 z3 z4 z5
  go_wp2_with fail
  refine (HF.out _ HM1.out HB1.out).mono ?_
  rintro e2 w2 ⟨⟨er, rfl⟩, hb⟩
  have HB2 := Lib.hid (HB1.out.trans (hb.mono HB1.out.size))
  clear hb HB1 HM1
  go_wp2
  go_ret2
  exact ⟨⟨_, rfl⟩, HB2.out⟩
end Go.Proofs.YtlhijjfbcgconaaDoor.P

