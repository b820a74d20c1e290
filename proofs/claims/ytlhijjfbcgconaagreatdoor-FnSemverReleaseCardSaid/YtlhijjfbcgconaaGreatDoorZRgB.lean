/- Texts joined: Rg6, Rg7, Rg8, Rg37. -/
import Derived.Test.YtlhijjfbcgconaaGreatDoorZRg5
import Derived.Test.YtlhijjfbcgconaaGreatDoorZSoM
import Derived.Test.YtlhijjfbcgconaaGreatDoorZSv
import Derived.LaidEqlPtr
import Derived.Test.YtlhijjfbcgconaaGreatDoorZQR2

/- Constraints: a version held to one (tilde, and a plain version). -/
set_option linter.unusedVariables false
set_option linter.unusedSimpArgs false
namespace Go.Proofs.YtlhijjfbcgconaaGreatDoor.P
open Go.RowKit Go.Proofs.YtlhijjfbcgconaaGreatDoorW.PrintWords Go.Proofs.YtlhijjfbcgconaaGreatDoorW.PrintLast Go.Proofs.YtlhijjfbcgconaaGreatDoorW.PrintMore

/-- A version, a constraint and its version in memory. -/
structure Mem (W : World) (qv g q : Nat) (a1 a2 a3 b1 b2 b3 : Int) (pa ma oa pb mb ob orig op : ByteArray) (md dd pd : Bool) : Prop where
  v : W.heap[qv]? = some (.cells (verCells a1 a2 a3 pa ma oa) 64 (0, 0))
  c : W.heap[q]? = some (.cells (verCells b1 b2 b3 pb mb ob) 64 (0, 0))
  g : W.heap[g]? = some (.cells (consCells q orig op md dd pd) 66 (0, 0))
theorem Mem.below {W W2 : World} {qv g q : Nat} {a1 a2 a3 b1 b2 b3 : Int} {pa ma oa pb mb ob orig op : ByteArray} {md dd pd : Bool} (h : Mem W qv g q a1 a2 a3 b1 b2 b3 pa ma oa pb mb ob orig op md dd pd) (hb : Below W.heap.size W W2) : Mem W2 qv g q a1 a2 a3 b1 b2 b3 pa ma oa pb mb ob orig op md dd pd := ⟨blk_below h.v hb, blk_below h.c hb, blk_below h.g hb⟩
set_option maxHeartbeats 3200000 in
set_option maxRecDepth 100000 in
theorem lt_call {qv q : Nat} {C : Int} (w : World) (h : Calls Tryz.prog 77 #[.pointer (some ⟨qv, 0, none⟩), .pointer (some ⟨q, 0, none⟩)] w fun e w' => e = .returned (.int .i64 C) ∧ Below w.heap.size w w') :
    Calls Tryz.prog 78 #[.pointer (some ⟨qv, 0, none⟩), .pointer (some ⟨q, 0, none⟩)] w fun e w' => e = .returned (.bool (decide (C < 0))) ∧ Below w.heap.size w w' := by
  have H := Lib.hid h
  clear h
  go_enter Tryz.func78, Tryz.ntmps78
  go_wp2_with fail
  refine H.out.mono ?_
  rintro e w2 ⟨rfl, hb⟩
  have HB := Lib.hid hb
  clear hb H
  go_wp2
  go_ret
  exact ⟨rfl, HB.out⟩
set_option maxHeartbeats 3200000 in
set_option maxRecDepth 100000 in
theorem equal_call {qv q : Nat} {C : Int} {ca cb : Array Value} {ta tb : TypeId} (hne : qv ≠ q) (w : World) (hA : w.heap[qv]? = some (.cells ca ta (0, 0))) (hB : w.heap[q]? = some (.cells cb tb (0, 0))) (h : Calls Tryz.prog 77 #[.pointer (some ⟨qv, 0, none⟩), .pointer (some ⟨q, 0, none⟩)] w fun e w' => e = .returned (.int .i64 C) ∧ Below w.heap.size w w') :
    Calls Tryz.prog 72 #[.pointer (some ⟨qv, 0, none⟩), .pointer (some ⟨q, 0, none⟩)] w fun e w' => e = .returned (.bool (C == 0)) ∧ Below w.heap.size w w' := by
  have H := Lib.hid h
  have hnb : (binOp BinOp.eql 49 (Value.pointer (some (⟨qv, 0, none⟩ : Addr))) (Value.pointer (some ⟨q, 0, none⟩))).run Tryz.prog w = .ok (.bool false) w := by
    have hi : (Tryz.prog.info? 64).map (fun i => i.size) = some 6 := by kernel_rfl
    cases hj : Tryz.prog.info? 64 with
    | none => rw [hj] at hi; cases hi
    | some j =>
      rw [hj] at hi
      injection hi with hi
      exact run_eql_ptr_other w Tryz.underlying49 hj (by have hi2 : j.size = 6 := hi; omega) (fun hh => hne (by injection hh)) hA hB
  clear h hA hB
  go_enter Tryz.func72, Tryz.ntmps72
  go_wp2_with fail
  refine H.out.mono ?_
  rintro e w2 ⟨rfl, hb⟩
  have HB := Lib.hid hb
  clear hb H
  go_wp2
  go_ret
  exact ⟨rfl, HB.out⟩
/-- What the tilde answers: C the order of the versions. -/
def tildeB (C a1 a2 b1 b2 b3 : Int) (md pd : Bool) : Bool := if C < 0 then false else if b1 = 0 ∧ b2 = 0 ∧ b3 = 0 ∧ md = false ∧ pd = false then true else if a1 ≠ b1 then false else if a2 ≠ b2 ∧ md = false then false else true
set_option maxHeartbeats 3200000 in
set_option maxRecDepth 100000 in
theorem tilde_call {qv g q : Nat} {a1 a2 a3 b1 b2 b3 : Int} {pa ma oa pb mb ob orig op : ByteArray} {md dd pd : Bool} {C : Int} (ip : Bool) (w : World) (hm : Mem w qv g q a1 a2 a3 b1 b2 b3 pa ma oa pb mb ob orig op md dd pd) (hip : pa.size = 0 ∨ ip = true) (hcmp : ∀ W, Below w.heap.size w W → Calls Tryz.prog 77 #[.pointer (some ⟨qv, 0, none⟩), .pointer (some ⟨q, 0, none⟩)] W fun e w' => e = .returned (.int .i64 C) ∧ Below W.heap.size W w') :
    Calls Tryz.prog 59 #[.pointer (some ⟨qv, 0, none⟩), .pointer (some ⟨g, 0, none⟩), .bool ip] w fun e w' => (∃ er, e = .returned (.tuple #[.bool (tildeB C a1 a2 b1 b2 b3 md pd), er])) ∧ Below w.heap.size w w' := by
  have HM0 := Lib.hid hm
  have HC := Lib.hid hcmp
  have HB0 := Lib.hid (Below.refl w.heap.size w)
  obtain ⟨R, hR⟩ : ∃ R, R = (tildeB C a1 a2 b1 b2 b3 md pd) := ⟨_, rfl⟩
  have HR := Lib.hid hR
  clear hm hcmp
  rw [← hR]
  clear hR
  go_enter Tryz.func59, Tryz.ntmps59
  have y0 := blk_cell HM0.out.v 0
  have y1 := blk_cell HM0.out.v 1
  have y2 := blk_cell HM0.out.v 2
  have y3 := blk_cell HM0.out.v 3
  have y4 := blk_cell HM0.out.v 4
  have y5 := blk_cell HM0.out.v 5
  simp only [verCells, List.getElem?_toArray, List.getElem?_cons_zero, List.getElem?_cons_succ] at y0 y1 y2 y3 y4 y5
  go_upto_region 1 with fail
  go_cut [16] from 8 to 16 (fun v wc => v = .bool false ∧ Hid (Mem wc qv g q a1 a2 a3 b1 b2 b3 pa ma oa pb mb ob orig op md dd pd) ∧ Hid (Below w.heap.size w wc))
  case first =>
    go_wp2_with fail
    refine (verPrerelease_call a1 a2 a3 pa ma oa _).mono ?_
    rintro e1 w1 ⟨rfl, hb⟩
    have HM1 := Lib.hid (HM0.out.below hb)
    have HB1 := Lib.hid (HB0.out.trans (hb.mono HB0.out.size))
    clear hb HM0 HB0
    clear y0 y1 y2 y3 y4 y5
    rcases hip with hip | hip
    · have hn : (pa.toList == []) = true := by rw [show pa = ⟨#[]⟩ from ba_ext (List.eq_nil_of_length_eq_zero (by rw [size_list]; exact hip))]; decide +kernel
      have hn2 : (pa.toList != []) = false := by rw [bne, hn]; rfl
      have hn3 : pa.toList.isEmpty = true := by rw [show pa = ⟨#[]⟩ from ba_ext (List.eq_nil_of_length_eq_zero (by rw [size_list]; exact hip))]; decide +kernel
      clear hip
      go_wp2
      go_meet
      case rel => exact ⟨rfl, HM1, HB1⟩
    · subst hip
      by_cases hz : pa.size = 0
      · have hn3 : pa.toList.isEmpty = true := by rw [show pa = ⟨#[]⟩ from ba_ext (List.eq_nil_of_length_eq_zero (by rw [size_list]; exact hz))]; decide +kernel
        go_wp2
        go_meet
        case rel => exact ⟨rfl, HM1, HB1⟩
      · have hn3 := full_t (show 0 < pa.size by omega)
        go_wp2
        go_meet
        case rel => exact ⟨rfl, HM1, HB1⟩
  case rest =>
  clear y0 y1 y2 y3 y4 y5
  clear HM0 HB0 hip
  obtain ⟨rfl, HM1, HB1⟩ := hcut
  have z0 := blk_cell HM1.out.g 0
  have z1 := blk_cell HM1.out.g 1
  have z2 := blk_cell HM1.out.g 2
  have z3 := blk_cell HM1.out.g 3
  have z4 := blk_cell HM1.out.g 4
  have z5 := blk_cell HM1.out.g 5
  simp only [consCells, List.getElem?_toArray, List.getElem?_cons_zero, List.getElem?_cons_succ] at z0 z1 z2 z3 z4 z5
  go_wp2_with fail
  refine (lt_call _ (HC.out _ HB1.out)).mono ?_
  rintro e2 w2 ⟨rfl, hb⟩
  have HM2 := Lib.hid (HM1.out.below hb)
  have HB2 := Lib.hid (HB1.out.trans (hb.mono HB1.out.size))
  clear hb HM1 HB1
  clear z0 z1 z2 z3 z4 z5
  by_cases hC : C < 0
  · have d1 : decide (C < 0) = true := decide_eq_true hC
    have HR2 := Lib.hid (show R = false by rw [HR.out]; unfold tildeB; rw [if_pos hC])
    rw [d1]
    clear HR
    have HR := HR2
    clear HR2 hC
    go_wp2_with (go_at_call 25; refine (errors_New.calls _ _).mono ?_; rintro e99 w99 ⟨⟨x99, rfl⟩, hb⟩)
    go_ret2
    exact ⟨⟨_, by rw [HR.out]; rfl⟩, HB2.out.trans (hb.mono HB2.out.size)⟩
  have d1 : decide (C < 0) = false := decide_eq_false hC
  rw [d1]
  clear d1
  have HR2 := Lib.hid (show R = if b1 = 0 ∧ b2 = 0 ∧ b3 = 0 ∧ md = false ∧ pd = false then true else if a1 ≠ b1 then false else if a2 ≠ b2 ∧ md = false then false else true by rw [HR.out]; unfold tildeB; rw [if_neg hC])
  clear HR hC
  have HR := HR2
  clear HR2
  obtain ⟨sp, hsp⟩ : ∃ sp, sp = decide (b1 = 0 ∧ b2 = 0 ∧ b3 = 0 ∧ md = false ∧ pd = false) := ⟨_, rfl⟩
  have HSP := Lib.hid hsp
  clear hsp
  go_upto_region 5 with fail
  go_cut [66] from 25 to 66 (fun v wc => v = .bool sp ∧ Hid (Mem wc qv g q a1 a2 a3 b1 b2 b3 pa ma oa pb mb ob orig op md dd pd) ∧ Hid (Below w.heap.size w wc))
  case first =>
    have y0 := blk_cell HM2.out.c 0
    have y1 := blk_cell HM2.out.c 1
    have y2 := blk_cell HM2.out.c 2
    have y3 := blk_cell HM2.out.c 3
    have y4 := blk_cell HM2.out.c 4
    have y5 := blk_cell HM2.out.c 5
    simp only [verCells, List.getElem?_toArray, List.getElem?_cons_zero, List.getElem?_cons_succ] at y0 y1 y2 y3 y4 y5
    have z0 := blk_cell HM2.out.g 0
    have z1 := blk_cell HM2.out.g 1
    have z2 := blk_cell HM2.out.g 2
    have z3 := blk_cell HM2.out.g 3
    have z4 := blk_cell HM2.out.g 4
    have z5 := blk_cell HM2.out.g 5
    simp only [consCells, List.getElem?_toArray, List.getElem?_cons_zero, List.getElem?_cons_succ] at z0 z1 z2 z3 z4 z5
    go_wp2_with fail
    refine (verMajor_call b1 b2 b3 pb mb ob _).mono ?_
    rintro e3 w3 ⟨rfl, hb⟩
    have HM3 := Lib.hid (HM2.out.below hb)
    have HB3 := Lib.hid (HB2.out.trans (hb.mono HB2.out.size))
    clear hb HM2 HB2
    clear y0 y1 y2 y3 y4 y5
    clear z0 z1 z2 z3 z4 z5
    by_cases hb1 : b1 = 0
    rotate_left
    · have fb1 : (b1 == 0) = false := beq_eq_false_iff_ne.2 hb1
      have z0 := blk_cell HM3.out.g 0
      have z1 := blk_cell HM3.out.g 1
      have z2 := blk_cell HM3.out.g 2
      have z3 := blk_cell HM3.out.g 3
      have z4 := blk_cell HM3.out.g 4
      have z5 := blk_cell HM3.out.g 5
      simp only [consCells, List.getElem?_toArray, List.getElem?_cons_zero, List.getElem?_cons_succ] at z0 z1 z2 z3 z4 z5
      go_wp2
      go_meet
      case rel => exact ⟨by rw [HSP.out, decide_eq_false (by simp [hb1])], HM3, HB3⟩
    have fb1 : (b1 == 0) = true := beq_iff_eq.2 hb1
    replace hb1 := Lib.hid hb1
    have y0 := blk_cell HM3.out.c 0
    have y1 := blk_cell HM3.out.c 1
    have y2 := blk_cell HM3.out.c 2
    have y3 := blk_cell HM3.out.c 3
    have y4 := blk_cell HM3.out.c 4
    have y5 := blk_cell HM3.out.c 5
    simp only [verCells, List.getElem?_toArray, List.getElem?_cons_zero, List.getElem?_cons_succ] at y0 y1 y2 y3 y4 y5
    have z0 := blk_cell HM3.out.g 0
    have z1 := blk_cell HM3.out.g 1
    have z2 := blk_cell HM3.out.g 2
    have z3 := blk_cell HM3.out.g 3
    have z4 := blk_cell HM3.out.g 4
    have z5 := blk_cell HM3.out.g 5
    simp only [consCells, List.getElem?_toArray, List.getElem?_cons_zero, List.getElem?_cons_succ] at z0 z1 z2 z3 z4 z5
    go_wp2_with fail
    refine (verMinor_call b1 b2 b3 pb mb ob _).mono ?_
    rintro e4 w4 ⟨rfl, hb⟩
    have HM4 := Lib.hid (HM3.out.below hb)
    have HB4 := Lib.hid (HB3.out.trans (hb.mono HB3.out.size))
    clear hb HM3 HB3
    clear y0 y1 y2 y3 y4 y5
    clear z0 z1 z2 z3 z4 z5
    by_cases hb2 : b2 = 0
    rotate_left
    · have fb2 : (b2 == 0) = false := beq_eq_false_iff_ne.2 hb2
      have z0 := blk_cell HM4.out.g 0
      have z1 := blk_cell HM4.out.g 1
      have z2 := blk_cell HM4.out.g 2
      have z3 := blk_cell HM4.out.g 3
      have z4 := blk_cell HM4.out.g 4
      have z5 := blk_cell HM4.out.g 5
      simp only [consCells, List.getElem?_toArray, List.getElem?_cons_zero, List.getElem?_cons_succ] at z0 z1 z2 z3 z4 z5
      go_wp2
      go_meet
      case rel => exact ⟨by rw [HSP.out, decide_eq_false (by simp [hb2])], HM4, HB4⟩
    have fb2 : (b2 == 0) = true := beq_iff_eq.2 hb2
    replace hb2 := Lib.hid hb2
    have y0 := blk_cell HM4.out.c 0
    have y1 := blk_cell HM4.out.c 1
    have y2 := blk_cell HM4.out.c 2
    have y3 := blk_cell HM4.out.c 3
    have y4 := blk_cell HM4.out.c 4
    have y5 := blk_cell HM4.out.c 5
    simp only [verCells, List.getElem?_toArray, List.getElem?_cons_zero, List.getElem?_cons_succ] at y0 y1 y2 y3 y4 y5
    have z0 := blk_cell HM4.out.g 0
    have z1 := blk_cell HM4.out.g 1
    have z2 := blk_cell HM4.out.g 2
    have z3 := blk_cell HM4.out.g 3
    have z4 := blk_cell HM4.out.g 4
    have z5 := blk_cell HM4.out.g 5
    simp only [consCells, List.getElem?_toArray, List.getElem?_cons_zero, List.getElem?_cons_succ] at z0 z1 z2 z3 z4 z5
    go_wp2_with fail
    refine (verPatch_call b1 b2 b3 pb mb ob _).mono ?_
    rintro e5 w5 ⟨rfl, hb⟩
    have HM5 := Lib.hid (HM4.out.below hb)
    have HB5 := Lib.hid (HB4.out.trans (hb.mono HB4.out.size))
    clear hb HM4 HB4
    clear y0 y1 y2 y3 y4 y5
    clear z0 z1 z2 z3 z4 z5
    by_cases hb3 : b3 = 0
    rotate_left
    · have fb3 : (b3 == 0) = false := beq_eq_false_iff_ne.2 hb3
      have z0 := blk_cell HM5.out.g 0
      have z1 := blk_cell HM5.out.g 1
      have z2 := blk_cell HM5.out.g 2
      have z3 := blk_cell HM5.out.g 3
      have z4 := blk_cell HM5.out.g 4
      have z5 := blk_cell HM5.out.g 5
      simp only [consCells, List.getElem?_toArray, List.getElem?_cons_zero, List.getElem?_cons_succ] at z0 z1 z2 z3 z4 z5
      go_wp2
      go_meet
      case rel => exact ⟨by rw [HSP.out, decide_eq_false (by simp [hb3])], HM5, HB5⟩
    have fb3 : (b3 == 0) = true := beq_iff_eq.2 hb3
    replace hb3 := Lib.hid hb3
    have z0 := blk_cell HM5.out.g 0
    have z1 := blk_cell HM5.out.g 1
    have z2 := blk_cell HM5.out.g 2
    have z3 := blk_cell HM5.out.g 3
    have z4 := blk_cell HM5.out.g 4
    have z5 := blk_cell HM5.out.g 5
    simp only [consCells, List.getElem?_toArray, List.getElem?_cons_zero, List.getElem?_cons_succ] at z0 z1 z2 z3 z4 z5
    cases md with
    | true =>
      go_wp2
      go_meet
      case rel => exact ⟨by rw [HSP.out, decide_eq_false (by simp)], HM5, HB5⟩
    | false =>
      cases pd with
      | true =>
        go_wp2
        go_meet
        case rel => exact ⟨by rw [HSP.out, decide_eq_false (by simp)], HM5, HB5⟩
      | false =>
        go_wp2
        go_meet
        case rel => exact ⟨by rw [HSP.out, decide_eq_true (by simp [hb1.out, hb2.out, hb3.out])], HM5, HB5⟩
  case rest =>
  clear HM2 HB2
  obtain ⟨rfl, HM3, HB3⟩ := hcut
  by_cases hS : b1 = 0 ∧ b2 = 0 ∧ b3 = 0 ∧ md = false ∧ pd = false
  · have hs2 : sp = true := by rw [HSP.out]; exact decide_eq_true hS
    have HR2 := Lib.hid (show R = true by rw [HR.out, if_pos hS])
    clear HR HSP hS
    have HR := HR2
    clear HR2
    subst hs2
    go_wp2
    go_ret2
    exact ⟨⟨_, by rw [HR.out]; rfl⟩, HB3.out⟩
  have hs2 : sp = false := by rw [HSP.out]; exact decide_eq_false hS
  have HR2 := Lib.hid (show R = if a1 ≠ b1 then false else if a2 ≠ b2 ∧ md = false then false else true by rw [HR.out, if_neg hS])
  clear HR HSP hS
  have HR := HR2
  clear HR2
  subst hs2
  go_upto_region 7 with fail
  have HMd := Lib.hid (show Mem wc.drew qv g q a1 a2 a3 b1 b2 b3 pa ma oa pb mb ob orig op md dd pd from ⟨HM3.out.v, HM3.out.c, HM3.out.g⟩)
  have HBd := Lib.hid (show Below w.heap.size w wc.drew from HB3.out.drew)
  clear HM3 HB3
  refine start_ (n := 12) (ds := []) (S := fun w' => Mem w' qv g q a1 a2 a3 b1 b2 b3 pa ma oa pb mb ob orig op md dd pd) #[false, false, false, false, false, false, false, false, false, false, false, false] (by kernel_rfl) rfl rfl (HMd.out) (fun hHeld => ?_)
  generalize wc.drew = a4 at *
  refine pure_ (i := 0) (N := some 67) (v := ?_) (a' := ?_) #[true, false, false, false, false, false, false, false, false, false, false, false] rfl rfl (by kernel_rfl) (fun _ _ _ h => h) (Or.inl ⟨by rfl, ?_⟩) ?_ ?_
  rotate_left; (intro w'; go_simp; with_reducible rfl)
  rotate_left; (go_frame; rfl)
  refine pure_ (i := 1) (N := some 68) (v := ?_) (a' := ?_) #[true, true, false, false, false, false, false, false, false, false, false, false] rfl rfl (by kernel_rfl) (fun _ _ _ h => h) (Or.inl ⟨by rfl, ?_⟩) ?_ ?_
  rotate_left; (intro w'; go_simp; with_reducible rfl)
  rotate_left; (go_frame; rfl)
  refine pure_ (i := 4) (N := some 71) (v := ?_) (a' := ?_) #[true, true, false, false, true, false, false, false, false, false, false, false] rfl rfl (by kernel_rfl) (fun _ _ _ h => h) (Or.inl ⟨by rfl, ?_⟩) ?_ ?_
  rotate_left; (intro w'; go_simp; with_reducible rfl)
  rotate_left; (go_frame; rfl)
  refine pure_ (i := 5) (N := some 72) (v := ?_) (a' := ?_) #[true, true, false, false, true, true, false, false, false, false, false, false] rfl rfl (by kernel_rfl) (fun _ _ _ h => h) (Or.inl ⟨by rfl, ?_⟩) ?_ ?_
  rotate_left; (intro w'; go_simp; with_reducible rfl)
  rotate_left; (go_frame; rfl)
  refine pure_ (i := 6) (N := some 73) (v := ?_) (a' := ?_) #[true, true, false, false, true, true, true, false, false, false, false, false] rfl rfl (by kernel_rfl) (fun _ _ _ h => h) (Or.inl ⟨by rfl, ?_⟩) ?_ ?_
  rotate_left; (intro w'; go_simp; with_reducible rfl)
  rotate_left; (go_frame; rfl)
  refine take_ (i := 2) (N := some 69) (v := ?_) (a' := ?_) #[true, true, true, false, true, true, true, false, false, false, false, false] rfl rfl (by kernel_rfl) (fun _ _ _ h => h) (Or.inl ⟨by rfl, ?_⟩) hHeld ?_ ?_
  rotate_left
  · intro w' hS
    have y0 := blk_cell hS.v 0
    have y1 := blk_cell hS.v 1
    have y2 := blk_cell hS.v 2
    have y3 := blk_cell hS.v 3
    have y4 := blk_cell hS.v 4
    have y5 := blk_cell hS.v 5
    simp only [verCells, List.getElem?_toArray, List.getElem?_cons_zero, List.getElem?_cons_succ] at y0 y1 y2 y3 y4 y5
    clear hS
    go_simp
    with_reducible rfl
  rotate_left; (go_frame; rfl)
  refine take_ (i := 7) (N := some 74) (v := ?_) (a' := ?_) #[true, true, true, false, true, true, true, true, false, false, false, false] rfl rfl (by kernel_rfl) (fun _ _ _ h => h) (Or.inl ⟨by rfl, ?_⟩) hHeld ?_ ?_
  rotate_left
  · intro w' hS
    have z0 := blk_cell hS.g 0
    have z1 := blk_cell hS.g 1
    have z2 := blk_cell hS.g 2
    have z3 := blk_cell hS.g 3
    have z4 := blk_cell hS.g 4
    have z5 := blk_cell hS.g 5
    simp only [consCells, List.getElem?_toArray, List.getElem?_cons_zero, List.getElem?_cons_succ] at z0 z1 z2 z3 z4 z5
    clear hS
    go_simp
    with_reducible rfl
  rotate_left; (go_frame; rfl)
  refine pure_ (i := 8) (N := some 75) (v := ?_) (a' := ?_) #[true, true, true, false, true, true, true, true, true, false, false, false] rfl rfl (by kernel_rfl) (fun _ _ _ h => h) (Or.inl ⟨by rfl, ?_⟩) ?_ ?_
  rotate_left; (intro w'; go_simp; with_reducible rfl)
  rotate_left; (go_frame; rfl)
  refine take_ (i := 9) (N := some 76) (v := ?_) (a' := ?_) #[true, true, true, false, true, true, true, true, true, true, false, false] rfl rfl (by kernel_rfl) (fun _ _ _ h => h) (Or.inl ⟨by rfl, ?_⟩) hHeld ?_ ?_
  rotate_left
  · intro w' hS
    have y0 := blk_cell hS.c 0
    have y1 := blk_cell hS.c 1
    have y2 := blk_cell hS.c 2
    have y3 := blk_cell hS.c 3
    have y4 := blk_cell hS.c 4
    have y5 := blk_cell hS.c 5
    simp only [verCells, List.getElem?_toArray, List.getElem?_cons_zero, List.getElem?_cons_succ] at y0 y1 y2 y3 y4 y5
    clear hS
    go_simp
    with_reducible rfl
  rotate_left; (go_frame; rfl)
  refine one_ (i := 3) (N := some 70) #[true, true, true, true, true, true, true, true, true, true, false, false] rfl rfl (by kernel_rfl) (by decide) (fun K hK => ?_)
  refine goes_ Tryz.func73 (by kernel_rfl) rfl #[.agg #[.int .u64 a1, .int .u64 a2, .int .u64 a3, .string pa, .string ma, .string oa]] (by rfl) rfl rfl (by (try simp only [List.map_toArray, List.map_cons, List.map_nil]); first | done | rfl) ?_
  refine (verMajor_call a1 a2 a3 pa ma oa a4).mono ?_
  rintro e b4 ⟨rfl, hb⟩
  have HMe := Lib.hid (HMd.out.below hb)
  have HBe := Lib.hid (HBd.out.trans (hb.mono HBd.out.size))
  clear hb HMd HBd
  refine ⟨_, rfl, ?_⟩
  clear hHeld
  refine hK.out _ _ (HMe.out) (fun hHeld => ?_)
  clear hK K
  refine norm_ (a' := ?_) ?_ ?_
  rotate_left
  · show Act.put _ (some 70) _ = _
    go_frame
    rfl
  refine one_ (i := 10) (N := some 77) #[true, true, true, true, true, true, true, true, true, true, true, false] rfl rfl (by kernel_rfl) (by decide) (fun K hK => ?_)
  refine goes_ Tryz.func73 (by kernel_rfl) rfl #[.agg #[.int .u64 b1, .int .u64 b2, .int .u64 b3, .string pb, .string mb, .string ob]] (by rfl) rfl rfl (by (try simp only [List.map_toArray, List.map_cons, List.map_nil]); first | done | rfl) ?_
  refine (verMajor_call b1 b2 b3 pb mb ob b4).mono ?_
  rintro e w4 ⟨rfl, hb⟩
  have HM4 := Lib.hid (HMe.out.below hb)
  have HB4 := Lib.hid (HBe.out.trans (hb.mono HBe.out.size))
  clear hb HMe HBe
  refine ⟨_, rfl, ?_⟩
  clear hHeld
  refine hK.out _ _ (HM4.out) (fun hHeld => ?_)
  clear hK K
  refine norm_ (a' := ?_) ?_ ?_
  rotate_left
  · show Act.put _ (some 77) _ = _
    go_frame
    rfl
  refine pure_ (i := 11) (N := some 78) (v := ?_) (a' := ?_) #[true, true, true, true, true, true, true, true, true, true, true, true] rfl rfl (by kernel_rfl) (fun _ _ _ h => h) (Or.inl ⟨by rfl, ?_⟩) ?_ ?_
  rotate_left; (intro w'; go_simp; with_reducible rfl)
  rotate_left; (go_frame; rfl)
  refine done_ (by kernel_rfl) ?_
  clear hHeld
  by_cases h1 : a1 = b1
  rotate_left
  · have d1 : (a1 != b1) = true := bne_iff_ne.2 h1
    have HR2 := Lib.hid (show R = false by rw [HR.out, if_pos h1])
    clear HR h1
    have HR := HR2
    clear HR2
    go_wp2_with (go_at_call 25; refine (errors_New.calls _ _).mono ?_; rintro e99 w99 ⟨⟨x99, rfl⟩, hb⟩)
    go_ret2
    exact ⟨⟨_, by rw [HR.out]; rfl⟩, HB4.out.trans (hb.mono HB4.out.size)⟩
  have d1 : (a1 != b1) = false := by rw [h1]; exact bne_self_eq_false b1
  have HR2 := Lib.hid (show R = if a2 ≠ b2 ∧ md = false then false else true by rw [HR.out, if_neg (fun q => q h1)])
  clear HR h1
  have HR := HR2
  clear HR2
  go_upto_region 9 with fail
  by_cases h2 : a2 = b2
  · have d2 : (a2 != b2) = false := by rw [h2]; exact bne_self_eq_false b2
    have HR2 := Lib.hid (show R = true by rw [HR.out, if_neg (fun q => q.1 h2)])
    clear HR h2
    have HR := HR2
    clear HR2
    have HMd := Lib.hid (show Mem w4.drew qv g q a1 a2 a3 b1 b2 b3 pa ma oa pb mb ob orig op md dd pd from ⟨HM4.out.v, HM4.out.c, HM4.out.g⟩)
    have HBd := Lib.hid (show Below w.heap.size w w4.drew from HB4.out.drew)
    clear HM4 HB4
    refine start_ (n := 19) (ds := []) (S := fun w' => Mem w' qv g q a1 a2 a3 b1 b2 b3 pa ma oa pb mb ob orig op md dd pd) #[false, false, false, false, false, false, false, false, false, false, false, false, false, false, false, false, false, false, false] (by kernel_rfl) rfl rfl (HMd.out) (fun hHeld => ?_)
    generalize w4.drew = a5 at *
    refine pure_ (i := 0) (N := some 80) (v := ?_) (a' := ?_) #[true, false, false, false, false, false, false, false, false, false, false, false, false, false, false, false, false, false, false] rfl rfl (by kernel_rfl) (fun _ _ _ h => h) (Or.inl ⟨by rfl, ?_⟩) ?_ ?_
    rotate_left; (intro w'; go_simp; with_reducible rfl)
    rotate_left; (go_frame; rfl)
    refine pure_ (i := 1) (N := some 81) (v := ?_) (a' := ?_) #[true, true, false, false, false, false, false, false, false, false, false, false, false, false, false, false, false, false, false] rfl rfl (by kernel_rfl) (fun _ _ _ h => h) (Or.inl ⟨by rfl, ?_⟩) ?_ ?_
    rotate_left; (intro w'; go_simp; with_reducible rfl)
    rotate_left; (go_frame; rfl)
    refine pure_ (i := 4) (N := some 84) (v := ?_) (a' := ?_) #[true, true, false, false, true, false, false, false, false, false, false, false, false, false, false, false, false, false, false] rfl rfl (by kernel_rfl) (fun _ _ _ h => h) (Or.inl ⟨by rfl, ?_⟩) ?_ ?_
    rotate_left; (intro w'; go_simp; with_reducible rfl)
    rotate_left; (go_frame; rfl)
    refine pure_ (i := 5) (N := some 85) (v := ?_) (a' := ?_) #[true, true, false, false, true, true, false, false, false, false, false, false, false, false, false, false, false, false, false] rfl rfl (by kernel_rfl) (fun _ _ _ h => h) (Or.inl ⟨by rfl, ?_⟩) ?_ ?_
    rotate_left; (intro w'; go_simp; with_reducible rfl)
    rotate_left; (go_frame; rfl)
    refine pure_ (i := 6) (N := some 86) (v := ?_) (a' := ?_) #[true, true, false, false, true, true, true, false, false, false, false, false, false, false, false, false, false, false, false] rfl rfl (by kernel_rfl) (fun _ _ _ h => h) (Or.inl ⟨by rfl, ?_⟩) ?_ ?_
    rotate_left; (intro w'; go_simp; with_reducible rfl)
    rotate_left; (go_frame; rfl)
    refine take_ (i := 2) (N := some 82) (v := ?_) (a' := ?_) #[true, true, true, false, true, true, true, false, false, false, false, false, false, false, false, false, false, false, false] rfl rfl (by kernel_rfl) (fun _ _ _ h => h) (Or.inl ⟨by rfl, ?_⟩) hHeld ?_ ?_
    rotate_left
    · intro w' hS
      have y0 := blk_cell hS.v 0
      have y1 := blk_cell hS.v 1
      have y2 := blk_cell hS.v 2
      have y3 := blk_cell hS.v 3
      have y4 := blk_cell hS.v 4
      have y5 := blk_cell hS.v 5
      simp only [verCells, List.getElem?_toArray, List.getElem?_cons_zero, List.getElem?_cons_succ] at y0 y1 y2 y3 y4 y5
      clear hS
      go_simp
      with_reducible rfl
    rotate_left; (go_frame; rfl)
    refine take_ (i := 7) (N := some 87) (v := ?_) (a' := ?_) #[true, true, true, false, true, true, true, true, false, false, false, false, false, false, false, false, false, false, false] rfl rfl (by kernel_rfl) (fun _ _ _ h => h) (Or.inl ⟨by rfl, ?_⟩) hHeld ?_ ?_
    rotate_left
    · intro w' hS
      have z0 := blk_cell hS.g 0
      have z1 := blk_cell hS.g 1
      have z2 := blk_cell hS.g 2
      have z3 := blk_cell hS.g 3
      have z4 := blk_cell hS.g 4
      have z5 := blk_cell hS.g 5
      simp only [consCells, List.getElem?_toArray, List.getElem?_cons_zero, List.getElem?_cons_succ] at z0 z1 z2 z3 z4 z5
      clear hS
      go_simp
      with_reducible rfl
    rotate_left; (go_frame; rfl)
    refine pure_ (i := 8) (N := some 88) (v := ?_) (a' := ?_) #[true, true, true, false, true, true, true, true, true, false, false, false, false, false, false, false, false, false, false] rfl rfl (by kernel_rfl) (fun _ _ _ h => h) (Or.inl ⟨by rfl, ?_⟩) ?_ ?_
    rotate_left; (intro w'; go_simp; with_reducible rfl)
    rotate_left; (go_frame; rfl)
    refine take_ (i := 9) (N := some 89) (v := ?_) (a' := ?_) #[true, true, true, false, true, true, true, true, true, true, false, false, false, false, false, false, false, false, false] rfl rfl (by kernel_rfl) (fun _ _ _ h => h) (Or.inl ⟨by rfl, ?_⟩) hHeld ?_ ?_
    rotate_left
    · intro w' hS
      have y0 := blk_cell hS.c 0
      have y1 := blk_cell hS.c 1
      have y2 := blk_cell hS.c 2
      have y3 := blk_cell hS.c 3
      have y4 := blk_cell hS.c 4
      have y5 := blk_cell hS.c 5
      simp only [verCells, List.getElem?_toArray, List.getElem?_cons_zero, List.getElem?_cons_succ] at y0 y1 y2 y3 y4 y5
      clear hS
      go_simp
      with_reducible rfl
    rotate_left; (go_frame; rfl)
    refine one_ (i := 3) (N := some 83) #[true, true, true, true, true, true, true, true, true, true, false, false, false, false, false, false, false, false, false] rfl rfl (by kernel_rfl) (by decide) (fun K hK => ?_)
    refine goes_ Tryz.func74 (by kernel_rfl) rfl #[.agg #[.int .u64 a1, .int .u64 a2, .int .u64 a3, .string pa, .string ma, .string oa]] (by rfl) rfl rfl (by (try simp only [List.map_toArray, List.map_cons, List.map_nil]); first | done | rfl) ?_
    refine (verMinor_call a1 a2 a3 pa ma oa a5).mono ?_
    rintro e b5 ⟨rfl, hb⟩
    have HMe := Lib.hid (HMd.out.below hb)
    have HBe := Lib.hid (HBd.out.trans (hb.mono HBd.out.size))
    clear hb HMd HBd
    refine ⟨_, rfl, ?_⟩
    clear hHeld
    refine hK.out _ _ (HMe.out) (fun hHeld => ?_)
    clear hK K
    refine norm_ (a' := ?_) ?_ ?_
    rotate_left
    · show Act.put _ (some 83) _ = _
      go_frame
      rfl
    refine one_ (i := 10) (N := some 90) #[true, true, true, true, true, true, true, true, true, true, true, false, false, false, false, false, false, false, false] rfl rfl (by kernel_rfl) (by decide) (fun K hK => ?_)
    refine goes_ Tryz.func74 (by kernel_rfl) rfl #[.agg #[.int .u64 b1, .int .u64 b2, .int .u64 b3, .string pb, .string mb, .string ob]] (by rfl) rfl rfl (by (try simp only [List.map_toArray, List.map_cons, List.map_nil]); first | done | rfl) ?_
    refine (verMinor_call b1 b2 b3 pb mb ob b5).mono ?_
    rintro e w5 ⟨rfl, hb⟩
    have HM5 := Lib.hid (HMe.out.below hb)
    have HB5 := Lib.hid (HBe.out.trans (hb.mono HBe.out.size))
    clear hb HMe HBe
    refine ⟨_, rfl, ?_⟩
    clear hHeld
    refine hK.out _ _ (HM5.out) (fun hHeld => ?_)
    clear hK K
    refine norm_ (a' := ?_) ?_ ?_
    rotate_left
    · show Act.put _ (some 90) _ = _
      go_frame
      rfl
    refine pure_ (i := 11) (N := some 91) (v := ?_) (a' := ?_) #[true, true, true, true, true, true, true, true, true, true, true, true, false, false, false, false, false, false, false] rfl rfl (by kernel_rfl) (fun _ _ _ h => h) (Or.inl ⟨by rfl, ?_⟩) ?_ ?_
    rotate_left; (intro w'; go_simp; with_reducible rfl)
    rotate_left; (go_frame; rfl)
    refine pure_ (i := 12) (N := some 92) (v := ?_) (a' := ?_) #[true, true, true, true, true, true, true, true, true, true, true, true, true, false, false, false, false, false, false] rfl rfl (by kernel_rfl) (fun _ _ _ h => h) (Or.inl ⟨by rfl, ?_⟩) ?_ ?_
    rotate_left; (intro w'; go_simp; with_reducible rfl)
    rotate_left; (go_frame; rfl)
    refine pure_ (i := 13) (N := some 93) (v := undef) (a' := ?_) #[true, true, true, true, true, true, true, true, true, true, true, true, true, true, false, false, false, false, false] rfl rfl (by kernel_rfl) (fun _ _ _ h => h) (Or.inr ⟨by rfl, rfl⟩) ?_ ?_
    rotate_left; (go_frame; rfl)
    refine pure_ (i := 14) (N := some 94) (v := undef) (a' := ?_) #[true, true, true, true, true, true, true, true, true, true, true, true, true, true, true, false, false, false, false] rfl rfl (by kernel_rfl) (fun _ _ _ h => h) (Or.inr ⟨by rfl, rfl⟩) ?_ ?_
    rotate_left; (go_frame; rfl)
    refine pure_ (i := 15) (N := some 95) (v := undef) (a' := ?_) #[true, true, true, true, true, true, true, true, true, true, true, true, true, true, true, true, false, false, false] rfl rfl (by kernel_rfl) (fun _ _ _ h => h) (Or.inr ⟨by rfl, rfl⟩) ?_ ?_
    rotate_left; (go_frame; rfl)
    refine pure_ (i := 16) (N := some 96) (v := undef) (a' := ?_) #[true, true, true, true, true, true, true, true, true, true, true, true, true, true, true, true, true, false, false] rfl rfl (by kernel_rfl) (fun _ _ _ h => h) (Or.inr ⟨by rfl, rfl⟩) ?_ ?_
    rotate_left; (go_frame; rfl)
    refine pure_ (i := 17) (N := some 97) (v := undef) (a' := ?_) #[true, true, true, true, true, true, true, true, true, true, true, true, true, true, true, true, true, true, false] rfl rfl (by kernel_rfl) (fun _ _ _ h => h) (Or.inr ⟨by rfl, rfl⟩) ?_ ?_
    rotate_left; (go_frame; rfl)
    refine pure_ (i := 18) (N := some 98) (v := ?_) (a' := ?_) #[true, true, true, true, true, true, true, true, true, true, true, true, true, true, true, true, true, true, true] rfl rfl (by kernel_rfl) (fun _ _ _ h => h) (Or.inl ⟨by rfl, ?_⟩) ?_ ?_
    rotate_left; (intro w'; go_simp; with_reducible rfl)
    rotate_left; (go_frame; rfl)
    refine done_ (by kernel_rfl) ?_
    clear hHeld
    go_wp2
    go_ret2
    exact ⟨⟨_, by rw [HR.out]; rfl⟩, HB5.out⟩
  · have d2 : (a2 != b2) = true := bne_iff_ne.2 h2
    have HMd := Lib.hid (show Mem w4.drew qv g q a1 a2 a3 b1 b2 b3 pa ma oa pb mb ob orig op md dd pd from ⟨HM4.out.v, HM4.out.c, HM4.out.g⟩)
    have HBd := Lib.hid (show Below w.heap.size w w4.drew from HB4.out.drew)
    clear HM4 HB4
    refine start_ (n := 19) (ds := []) (S := fun w' => Mem w' qv g q a1 a2 a3 b1 b2 b3 pa ma oa pb mb ob orig op md dd pd) #[false, false, false, false, false, false, false, false, false, false, false, false, false, false, false, false, false, false, false] (by kernel_rfl) rfl rfl (HMd.out) (fun hHeld => ?_)
    generalize w4.drew = a5 at *
    refine pure_ (i := 0) (N := some 80) (v := ?_) (a' := ?_) #[true, false, false, false, false, false, false, false, false, false, false, false, false, false, false, false, false, false, false] rfl rfl (by kernel_rfl) (fun _ _ _ h => h) (Or.inl ⟨by rfl, ?_⟩) ?_ ?_
    rotate_left; (intro w'; go_simp; with_reducible rfl)
    rotate_left; (go_frame; rfl)
    refine pure_ (i := 1) (N := some 81) (v := ?_) (a' := ?_) #[true, true, false, false, false, false, false, false, false, false, false, false, false, false, false, false, false, false, false] rfl rfl (by kernel_rfl) (fun _ _ _ h => h) (Or.inl ⟨by rfl, ?_⟩) ?_ ?_
    rotate_left; (intro w'; go_simp; with_reducible rfl)
    rotate_left; (go_frame; rfl)
    refine pure_ (i := 4) (N := some 84) (v := ?_) (a' := ?_) #[true, true, false, false, true, false, false, false, false, false, false, false, false, false, false, false, false, false, false] rfl rfl (by kernel_rfl) (fun _ _ _ h => h) (Or.inl ⟨by rfl, ?_⟩) ?_ ?_
    rotate_left; (intro w'; go_simp; with_reducible rfl)
    rotate_left; (go_frame; rfl)
    refine pure_ (i := 5) (N := some 85) (v := ?_) (a' := ?_) #[true, true, false, false, true, true, false, false, false, false, false, false, false, false, false, false, false, false, false] rfl rfl (by kernel_rfl) (fun _ _ _ h => h) (Or.inl ⟨by rfl, ?_⟩) ?_ ?_
    rotate_left; (intro w'; go_simp; with_reducible rfl)
    rotate_left; (go_frame; rfl)
    refine pure_ (i := 6) (N := some 86) (v := ?_) (a' := ?_) #[true, true, false, false, true, true, true, false, false, false, false, false, false, false, false, false, false, false, false] rfl rfl (by kernel_rfl) (fun _ _ _ h => h) (Or.inl ⟨by rfl, ?_⟩) ?_ ?_
    rotate_left; (intro w'; go_simp; with_reducible rfl)
    rotate_left; (go_frame; rfl)
    refine take_ (i := 2) (N := some 82) (v := ?_) (a' := ?_) #[true, true, true, false, true, true, true, false, false, false, false, false, false, false, false, false, false, false, false] rfl rfl (by kernel_rfl) (fun _ _ _ h => h) (Or.inl ⟨by rfl, ?_⟩) hHeld ?_ ?_
    rotate_left
    · intro w' hS
      have y0 := blk_cell hS.v 0
      have y1 := blk_cell hS.v 1
      have y2 := blk_cell hS.v 2
      have y3 := blk_cell hS.v 3
      have y4 := blk_cell hS.v 4
      have y5 := blk_cell hS.v 5
      simp only [verCells, List.getElem?_toArray, List.getElem?_cons_zero, List.getElem?_cons_succ] at y0 y1 y2 y3 y4 y5
      clear hS
      go_simp
      with_reducible rfl
    rotate_left; (go_frame; rfl)
    refine take_ (i := 7) (N := some 87) (v := ?_) (a' := ?_) #[true, true, true, false, true, true, true, true, false, false, false, false, false, false, false, false, false, false, false] rfl rfl (by kernel_rfl) (fun _ _ _ h => h) (Or.inl ⟨by rfl, ?_⟩) hHeld ?_ ?_
    rotate_left
    · intro w' hS
      have z0 := blk_cell hS.g 0
      have z1 := blk_cell hS.g 1
      have z2 := blk_cell hS.g 2
      have z3 := blk_cell hS.g 3
      have z4 := blk_cell hS.g 4
      have z5 := blk_cell hS.g 5
      simp only [consCells, List.getElem?_toArray, List.getElem?_cons_zero, List.getElem?_cons_succ] at z0 z1 z2 z3 z4 z5
      clear hS
      go_simp
      with_reducible rfl
    rotate_left; (go_frame; rfl)
    refine pure_ (i := 8) (N := some 88) (v := ?_) (a' := ?_) #[true, true, true, false, true, true, true, true, true, false, false, false, false, false, false, false, false, false, false] rfl rfl (by kernel_rfl) (fun _ _ _ h => h) (Or.inl ⟨by rfl, ?_⟩) ?_ ?_
    rotate_left; (intro w'; go_simp; with_reducible rfl)
    rotate_left; (go_frame; rfl)
    refine take_ (i := 9) (N := some 89) (v := ?_) (a' := ?_) #[true, true, true, false, true, true, true, true, true, true, false, false, false, false, false, false, false, false, false] rfl rfl (by kernel_rfl) (fun _ _ _ h => h) (Or.inl ⟨by rfl, ?_⟩) hHeld ?_ ?_
    rotate_left
    · intro w' hS
      have y0 := blk_cell hS.c 0
      have y1 := blk_cell hS.c 1
      have y2 := blk_cell hS.c 2
      have y3 := blk_cell hS.c 3
      have y4 := blk_cell hS.c 4
      have y5 := blk_cell hS.c 5
      simp only [verCells, List.getElem?_toArray, List.getElem?_cons_zero, List.getElem?_cons_succ] at y0 y1 y2 y3 y4 y5
      clear hS
      go_simp
      with_reducible rfl
    rotate_left; (go_frame; rfl)
    refine one_ (i := 3) (N := some 83) #[true, true, true, true, true, true, true, true, true, true, false, false, false, false, false, false, false, false, false] rfl rfl (by kernel_rfl) (by decide) (fun K hK => ?_)
    refine goes_ Tryz.func74 (by kernel_rfl) rfl #[.agg #[.int .u64 a1, .int .u64 a2, .int .u64 a3, .string pa, .string ma, .string oa]] (by rfl) rfl rfl (by (try simp only [List.map_toArray, List.map_cons, List.map_nil]); first | done | rfl) ?_
    refine (verMinor_call a1 a2 a3 pa ma oa a5).mono ?_
    rintro e b5 ⟨rfl, hb⟩
    have HMe := Lib.hid (HMd.out.below hb)
    have HBe := Lib.hid (HBd.out.trans (hb.mono HBd.out.size))
    clear hb HMd HBd
    refine ⟨_, rfl, ?_⟩
    clear hHeld
    refine hK.out _ _ (HMe.out) (fun hHeld => ?_)
    clear hK K
    refine norm_ (a' := ?_) ?_ ?_
    rotate_left
    · show Act.put _ (some 83) _ = _
      go_frame
      rfl
    refine one_ (i := 10) (N := some 90) #[true, true, true, true, true, true, true, true, true, true, true, false, false, false, false, false, false, false, false] rfl rfl (by kernel_rfl) (by decide) (fun K hK => ?_)
    refine goes_ Tryz.func74 (by kernel_rfl) rfl #[.agg #[.int .u64 b1, .int .u64 b2, .int .u64 b3, .string pb, .string mb, .string ob]] (by rfl) rfl rfl (by (try simp only [List.map_toArray, List.map_cons, List.map_nil]); first | done | rfl) ?_
    refine (verMinor_call b1 b2 b3 pb mb ob b5).mono ?_
    rintro e w5 ⟨rfl, hb⟩
    have HM5 := Lib.hid (HMe.out.below hb)
    have HB5 := Lib.hid (HBe.out.trans (hb.mono HBe.out.size))
    clear hb HMe HBe
    refine ⟨_, rfl, ?_⟩
    clear hHeld
    refine hK.out _ _ (HM5.out) (fun hHeld => ?_)
    clear hK K
    refine norm_ (a' := ?_) ?_ ?_
    rotate_left
    · show Act.put _ (some 90) _ = _
      go_frame
      rfl
    refine pure_ (i := 11) (N := some 91) (v := ?_) (a' := ?_) #[true, true, true, true, true, true, true, true, true, true, true, true, false, false, false, false, false, false, false] rfl rfl (by kernel_rfl) (fun _ _ _ h => h) (Or.inl ⟨by rfl, ?_⟩) ?_ ?_
    rotate_left; (intro w'; go_simp; with_reducible rfl)
    rotate_left; (go_frame; rfl)
    refine pure_ (i := 12) (N := some 92) (v := ?_) (a' := ?_) #[true, true, true, true, true, true, true, true, true, true, true, true, true, false, false, false, false, false, false] rfl rfl (by kernel_rfl) (fun _ _ _ h => h) (Or.inl ⟨by rfl, ?_⟩) ?_ ?_
    rotate_left; (intro w'; go_simp; with_reducible rfl)
    rotate_left; (go_frame; rfl)
    refine pure_ (i := 13) (N := some 93) (v := ?_) (a' := ?_) #[true, true, true, true, true, true, true, true, true, true, true, true, true, true, false, false, false, false, false] rfl rfl (by kernel_rfl) (fun _ _ _ h => h) (Or.inl ⟨by rfl, ?_⟩) ?_ ?_
    rotate_left; (intro w'; go_simp; with_reducible rfl)
    rotate_left; (go_frame; rfl)
    refine pure_ (i := 14) (N := some 94) (v := ?_) (a' := ?_) #[true, true, true, true, true, true, true, true, true, true, true, true, true, true, true, false, false, false, false] rfl rfl (by kernel_rfl) (fun _ _ _ h => h) (Or.inl ⟨by rfl, ?_⟩) ?_ ?_
    rotate_left; (intro w'; go_simp; with_reducible rfl)
    rotate_left; (go_frame; rfl)
    refine pure_ (i := 15) (N := some 95) (v := ?_) (a' := ?_) #[true, true, true, true, true, true, true, true, true, true, true, true, true, true, true, true, false, false, false] rfl rfl (by kernel_rfl) (fun _ _ _ h => h) (Or.inl ⟨by rfl, ?_⟩) ?_ ?_
    rotate_left; (intro w'; go_simp; with_reducible rfl)
    rotate_left; (go_frame; rfl)
    refine take_ (i := 16) (N := some 96) (v := ?_) (a' := ?_) #[true, true, true, true, true, true, true, true, true, true, true, true, true, true, true, true, true, false, false] rfl rfl (by kernel_rfl) (fun _ _ _ h => h) (Or.inl ⟨by rfl, ?_⟩) hHeld ?_ ?_
    rotate_left
    · intro w' hS
      have z0 := blk_cell hS.g 0
      have z1 := blk_cell hS.g 1
      have z2 := blk_cell hS.g 2
      have z3 := blk_cell hS.g 3
      have z4 := blk_cell hS.g 4
      have z5 := blk_cell hS.g 5
      simp only [consCells, List.getElem?_toArray, List.getElem?_cons_zero, List.getElem?_cons_succ] at z0 z1 z2 z3 z4 z5
      clear hS
      go_simp
      with_reducible rfl
    rotate_left; (go_frame; rfl)
    refine pure_ (i := 17) (N := some 97) (v := ?_) (a' := ?_) #[true, true, true, true, true, true, true, true, true, true, true, true, true, true, true, true, true, true, false] rfl rfl (by kernel_rfl) (fun _ _ _ h => h) (Or.inl ⟨by rfl, ?_⟩) ?_ ?_
    rotate_left; (intro w'; go_simp; with_reducible rfl)
    rotate_left; (go_frame; rfl)
    refine pure_ (i := 18) (N := some 98) (v := ?_) (a' := ?_) #[true, true, true, true, true, true, true, true, true, true, true, true, true, true, true, true, true, true, true] rfl rfl (by kernel_rfl) (fun _ _ _ h => h) (Or.inl ⟨by rfl, ?_⟩) ?_ ?_
    rotate_left; (intro w'; go_simp; with_reducible rfl)
    rotate_left; (go_frame; rfl)
    refine done_ (by kernel_rfl) ?_
    clear hHeld
    cases md with
    | true =>
      have HR2 := Lib.hid (show R = true by rw [HR.out, if_neg (fun q => Bool.noConfusion q.2)])
      clear HR h2
      have HR := HR2
      clear HR2
      go_wp2
      go_ret2
      exact ⟨⟨_, by rw [HR.out]; rfl⟩, HB5.out⟩
    | false =>
      have HR2 := Lib.hid (show R = false by rw [HR.out, if_pos ⟨h2, rfl⟩])
      clear HR h2
      have HR := HR2
      clear HR2
      go_wp2_with (go_at_call 25; refine (errors_New.calls _ _).mono ?_; rintro e99 w99 ⟨⟨x99, rfl⟩, hb⟩)
      go_ret2
      exact ⟨⟨_, by rw [HR.out]; rfl⟩, HB5.out.trans (hb.mono HB5.out.size)⟩
end Go.Proofs.YtlhijjfbcgconaaGreatDoor.P


/- Constraints: the tests and their choice. -/
set_option linter.unusedVariables false
set_option linter.unusedSimpArgs false
namespace Go.Proofs.YtlhijjfbcgconaaGreatDoor.P
open Go.RowKit Go.Proofs.YtlhijjfbcgconaaGreatDoorW.PrintWords Go.Proofs.YtlhijjfbcgconaaGreatDoorW.PrintLast Go.Proofs.YtlhijjfbcgconaaGreatDoorW.PrintMore

set_option maxHeartbeats 3200000 in
set_option maxRecDepth 100000 in
theorem gte_call {qv g q : Nat} {a1 a2 a3 b1 b2 b3 : Int} {pa ma oa pb mb ob orig op : ByteArray} {md dd pd : Bool} {C : Int} (ip : Bool)  (w : World) (hm : Mem w qv g q a1 a2 a3 b1 b2 b3 pa ma oa pb mb ob orig op md dd pd) (hip : pa.size = 0 ∨ ip = true) (hcmp : ∀ W, Below w.heap.size w W → Calls Tryz.prog 77 #[.pointer (some ⟨qv, 0, none⟩), .pointer (some ⟨q, 0, none⟩)] W fun e w' => e = .returned (.int .i64 C) ∧ Below W.heap.size W w') :
    Calls Tryz.prog 57 #[.pointer (some ⟨qv, 0, none⟩), .pointer (some ⟨g, 0, none⟩), .bool ip] w fun e w' => (∃ er, e = .returned (.tuple #[.bool (decide (C ≥ 0)), er])) ∧ Below w.heap.size w w' := by
  have HM0 := Lib.hid hm
  have HC := Lib.hid hcmp
  have HB0 := Lib.hid (Below.refl w.heap.size w)
  obtain ⟨R, hR⟩ : ∃ R, R = (decide (C ≥ 0)) := ⟨_, rfl⟩
  have HR := Lib.hid hR
  clear hm hcmp
  rw [← hR]
  clear hR
  go_enter Tryz.func57, Tryz.ntmps57
  have y0 := blk_cell HM0.out.v 0
  have y1 := blk_cell HM0.out.v 1
  have y2 := blk_cell HM0.out.v 2
  have y3 := blk_cell HM0.out.v 3
  have y4 := blk_cell HM0.out.v 4
  have y5 := blk_cell HM0.out.v 5
  simp only [verCells, List.getElem?_toArray, List.getElem?_cons_zero, List.getElem?_cons_succ] at y0 y1 y2 y3 y4 y5
  go_upto_region 1 with fail
  go_cut [17] from 9 to 17 (fun v wc => v = .bool false ∧ Hid (Mem wc qv g q a1 a2 a3 b1 b2 b3 pa ma oa pb mb ob orig op md dd pd) ∧ Hid (Below w.heap.size w wc))
  case first =>
    go_wp2_with fail
    refine (verPrerelease_call a1 a2 a3 pa ma oa _).mono ?_
    rintro e1 w1 ⟨rfl, hb⟩
    have HM1 := Lib.hid (HM0.out.below hb)
    have HB1 := Lib.hid (HB0.out.trans (hb.mono HB0.out.size))
    clear hb HM0 HB0
    clear y0 y1 y2 y3 y4 y5
    rcases hip with hip | hip
    · have hn : (pa.toList == []) = true := by rw [show pa = ⟨#[]⟩ from ba_ext (List.eq_nil_of_length_eq_zero (by rw [size_list]; exact hip))]; decide +kernel
      have hn2 : (pa.toList != []) = false := by rw [bne, hn]; rfl
      have hn3 : pa.toList.isEmpty = true := by rw [show pa = ⟨#[]⟩ from ba_ext (List.eq_nil_of_length_eq_zero (by rw [size_list]; exact hip))]; decide +kernel
      clear hip
      go_wp2
      go_meet
      case rel => exact ⟨rfl, HM1, HB1⟩
    · subst hip
      by_cases hz : pa.size = 0
      · have hn3 : pa.toList.isEmpty = true := by rw [show pa = ⟨#[]⟩ from ba_ext (List.eq_nil_of_length_eq_zero (by rw [size_list]; exact hz))]; decide +kernel
        go_wp2
        go_meet
        case rel => exact ⟨rfl, HM1, HB1⟩
      · have hn3 := full_t (show 0 < pa.size by omega)
        go_wp2
        go_meet
        case rel => exact ⟨rfl, HM1, HB1⟩
  case rest =>
  clear y0 y1 y2 y3 y4 y5
  clear HM0 HB0 hip
  obtain ⟨rfl, HM1, HB1⟩ := hcut
  have z0 := blk_cell HM1.out.g 0
  have z1 := blk_cell HM1.out.g 1
  have z2 := blk_cell HM1.out.g 2
  have z3 := blk_cell HM1.out.g 3
  have z4 := blk_cell HM1.out.g 4
  have z5 := blk_cell HM1.out.g 5
  simp only [consCells, List.getElem?_toArray, List.getElem?_cons_zero, List.getElem?_cons_succ] at z0 z1 z2 z3 z4 z5
  go_wp2_with fail
  refine (HC.out _ HB1.out).mono ?_
  rintro e2 w2 ⟨rfl, hb⟩
  have HM2 := Lib.hid (HM1.out.below hb)
  have HB2 := Lib.hid (HB1.out.trans (hb.mono HB1.out.size))
  clear hb HM1 HB1
  clear z0 z1 z2 z3 z4 z5
  by_cases hC : C ≥ 0
  · have d1 : decide (C ≥ 0) = true := decide_eq_true hC
    have HR2 := Lib.hid (show R = true by rw [HR.out]; exact d1)
    (try rw [d1])
    clear HR
    have HR := HR2
    clear HR2 hC
    go_wp2
    go_ret2
    exact ⟨⟨_, by rw [HR.out]; rfl⟩, HB2.out⟩
  · have d1 : decide (C ≥ 0) = false := decide_eq_false hC
    have HR2 := Lib.hid (show R = false by rw [HR.out]; exact d1)
    (try rw [d1])
    clear HR
    have HR := HR2
    clear HR2 hC
    go_wp2_with (go_at_call 25; refine (errors_New.calls _ _).mono ?_; rintro e99 w99 ⟨⟨x99, rfl⟩, hb⟩)
    go_ret2
    exact ⟨⟨_, by rw [HR.out]; rfl⟩, HB2.out.trans (hb.mono HB2.out.size)⟩
set_option maxHeartbeats 3200000 in
set_option maxRecDepth 100000 in
theorem lte_call {qv g q : Nat} {a1 a2 a3 b1 b2 b3 : Int} {pa ma oa pb mb ob orig op : ByteArray} {md dd pd : Bool} {C : Int} (ip : Bool) (hdd : dd = false)  (w : World) (hm : Mem w qv g q a1 a2 a3 b1 b2 b3 pa ma oa pb mb ob orig op md dd pd) (hip : pa.size = 0 ∨ ip = true) (hcmp : ∀ W, Below w.heap.size w W → Calls Tryz.prog 77 #[.pointer (some ⟨qv, 0, none⟩), .pointer (some ⟨q, 0, none⟩)] W fun e w' => e = .returned (.int .i64 C) ∧ Below W.heap.size W w') :
    Calls Tryz.prog 58 #[.pointer (some ⟨qv, 0, none⟩), .pointer (some ⟨g, 0, none⟩), .bool ip] w fun e w' => (∃ er, e = .returned (.tuple #[.bool (decide (C ≤ 0)), er])) ∧ Below w.heap.size w w' := by
  have HM0 := Lib.hid hm
  have HC := Lib.hid hcmp
  have HB0 := Lib.hid (Below.refl w.heap.size w)
  obtain ⟨R, hR⟩ : ∃ R, R = (decide (C ≤ 0)) := ⟨_, rfl⟩
  have HR := Lib.hid hR
  clear hm hcmp
  rw [← hR]
  clear hR
  subst hdd
  go_enter Tryz.func58, Tryz.ntmps58
  have y0 := blk_cell HM0.out.v 0
  have y1 := blk_cell HM0.out.v 1
  have y2 := blk_cell HM0.out.v 2
  have y3 := blk_cell HM0.out.v 3
  have y4 := blk_cell HM0.out.v 4
  have y5 := blk_cell HM0.out.v 5
  simp only [verCells, List.getElem?_toArray, List.getElem?_cons_zero, List.getElem?_cons_succ] at y0 y1 y2 y3 y4 y5
  go_upto_region 1 with fail
  go_cut [17] from 9 to 17 (fun v wc => v = .bool false ∧ Hid (Mem wc qv g q a1 a2 a3 b1 b2 b3 pa ma oa pb mb ob orig op md false pd) ∧ Hid (Below w.heap.size w wc))
  case first =>
    go_wp2_with fail
    refine (verPrerelease_call a1 a2 a3 pa ma oa _).mono ?_
    rintro e1 w1 ⟨rfl, hb⟩
    have HM1 := Lib.hid (HM0.out.below hb)
    have HB1 := Lib.hid (HB0.out.trans (hb.mono HB0.out.size))
    clear hb HM0 HB0
    clear y0 y1 y2 y3 y4 y5
    rcases hip with hip | hip
    · have hn : (pa.toList == []) = true := by rw [show pa = ⟨#[]⟩ from ba_ext (List.eq_nil_of_length_eq_zero (by rw [size_list]; exact hip))]; decide +kernel
      have hn2 : (pa.toList != []) = false := by rw [bne, hn]; rfl
      have hn3 : pa.toList.isEmpty = true := by rw [show pa = ⟨#[]⟩ from ba_ext (List.eq_nil_of_length_eq_zero (by rw [size_list]; exact hip))]; decide +kernel
      clear hip
      go_wp2
      go_meet
      case rel => exact ⟨rfl, HM1, HB1⟩
    · subst hip
      by_cases hz : pa.size = 0
      · have hn3 : pa.toList.isEmpty = true := by rw [show pa = ⟨#[]⟩ from ba_ext (List.eq_nil_of_length_eq_zero (by rw [size_list]; exact hz))]; decide +kernel
        go_wp2
        go_meet
        case rel => exact ⟨rfl, HM1, HB1⟩
      · have hn3 := full_t (show 0 < pa.size by omega)
        go_wp2
        go_meet
        case rel => exact ⟨rfl, HM1, HB1⟩
  case rest =>
  clear y0 y1 y2 y3 y4 y5
  clear HM0 HB0 hip
  obtain ⟨rfl, HM1, HB1⟩ := hcut
  have z0 := blk_cell HM1.out.g 0
  have z1 := blk_cell HM1.out.g 1
  have z2 := blk_cell HM1.out.g 2
  have z3 := blk_cell HM1.out.g 3
  have z4 := blk_cell HM1.out.g 4
  have z5 := blk_cell HM1.out.g 5
  simp only [consCells, List.getElem?_toArray, List.getElem?_cons_zero, List.getElem?_cons_succ] at z0 z1 z2 z3 z4 z5
  go_wp2_with fail
  refine (HC.out _ HB1.out).mono ?_
  rintro e2 w2 ⟨rfl, hb⟩
  have HM2 := Lib.hid (HM1.out.below hb)
  have HB2 := Lib.hid (HB1.out.trans (hb.mono HB1.out.size))
  clear hb HM1 HB1
  clear z0 z1 z2 z3 z4 z5
  by_cases hC : C ≤ 0
  · have d1 : decide (C ≤ 0) = true := decide_eq_true hC
    have HR2 := Lib.hid (show R = true by rw [HR.out]; exact d1)
    (try rw [d1])
    clear HR
    have HR := HR2
    clear HR2 hC
    go_wp2
    go_ret2
    exact ⟨⟨_, by rw [HR.out]; rfl⟩, HB2.out⟩
  · have d1 : decide (C ≤ 0) = false := decide_eq_false hC
    have HR2 := Lib.hid (show R = false by rw [HR.out]; exact d1)
    (try rw [d1])
    clear HR
    have HR := HR2
    clear HR2 hC
    go_wp2_with (go_at_call 25; refine (errors_New.calls _ _).mono ?_; rintro e99 w99 ⟨⟨x99, rfl⟩, hb⟩)
    go_ret2
    exact ⟨⟨_, by rw [HR.out]; rfl⟩, HB2.out.trans (hb.mono HB2.out.size)⟩
set_option maxHeartbeats 3200000 in
set_option maxRecDepth 100000 in
theorem teq_call {qv g q : Nat} {a1 a2 a3 b1 b2 b3 : Int} {pa ma oa pb mb ob orig op : ByteArray} {md dd pd : Bool} {C : Int} (ip : Bool) (hne : qv ≠ q)  (w : World) (hm : Mem w qv g q a1 a2 a3 b1 b2 b3 pa ma oa pb mb ob orig op md dd pd) (hip : pa.size = 0 ∨ ip = true) (hcmp : ∀ W, Below w.heap.size w W → Calls Tryz.prog 77 #[.pointer (some ⟨qv, 0, none⟩), .pointer (some ⟨q, 0, none⟩)] W fun e w' => e = .returned (.int .i64 C) ∧ Below W.heap.size W w') :
    Calls Tryz.prog 53 #[.pointer (some ⟨qv, 0, none⟩), .pointer (some ⟨g, 0, none⟩), .bool ip] w fun e w' => (∃ er, e = .returned (.tuple #[.bool (if dd then tildeB C a1 a2 b1 b2 b3 md pd else C == 0), er])) ∧ Below w.heap.size w w' := by
  have HM0 := Lib.hid hm
  have HC := Lib.hid hcmp
  have HB0 := Lib.hid (Below.refl w.heap.size w)
  obtain ⟨R, hR⟩ : ∃ R, R = (if dd then tildeB C a1 a2 b1 b2 b3 md pd else C == 0) := ⟨_, rfl⟩
  have HR := Lib.hid hR
  clear hm hcmp
  rw [← hR]
  clear hR
  have HIP := Lib.hid hip
  go_enter Tryz.func53, Tryz.ntmps53
  have y0 := blk_cell HM0.out.v 0
  have y1 := blk_cell HM0.out.v 1
  have y2 := blk_cell HM0.out.v 2
  have y3 := blk_cell HM0.out.v 3
  have y4 := blk_cell HM0.out.v 4
  have y5 := blk_cell HM0.out.v 5
  simp only [verCells, List.getElem?_toArray, List.getElem?_cons_zero, List.getElem?_cons_succ] at y0 y1 y2 y3 y4 y5
  go_upto_region 1 with fail
  go_cut [17] from 9 to 17 (fun v wc => v = .bool false ∧ Hid (Mem wc qv g q a1 a2 a3 b1 b2 b3 pa ma oa pb mb ob orig op md dd pd) ∧ Hid (Below w.heap.size w wc))
  case first =>
    go_wp2_with fail
    refine (verPrerelease_call a1 a2 a3 pa ma oa _).mono ?_
    rintro e1 w1 ⟨rfl, hb⟩
    have HM1 := Lib.hid (HM0.out.below hb)
    have HB1 := Lib.hid (HB0.out.trans (hb.mono HB0.out.size))
    clear hb HM0 HB0
    clear y0 y1 y2 y3 y4 y5
    rcases hip with hip | hip
    · have hn : (pa.toList == []) = true := by rw [show pa = ⟨#[]⟩ from ba_ext (List.eq_nil_of_length_eq_zero (by rw [size_list]; exact hip))]; decide +kernel
      have hn2 : (pa.toList != []) = false := by rw [bne, hn]; rfl
      have hn3 : pa.toList.isEmpty = true := by rw [show pa = ⟨#[]⟩ from ba_ext (List.eq_nil_of_length_eq_zero (by rw [size_list]; exact hip))]; decide +kernel
      clear hip
      go_wp2
      go_meet
      case rel => exact ⟨rfl, HM1, HB1⟩
    · subst hip
      by_cases hz : pa.size = 0
      · have hn3 : pa.toList.isEmpty = true := by rw [show pa = ⟨#[]⟩ from ba_ext (List.eq_nil_of_length_eq_zero (by rw [size_list]; exact hz))]; decide +kernel
        go_wp2
        go_meet
        case rel => exact ⟨rfl, HM1, HB1⟩
      · have hn3 := full_t (show 0 < pa.size by omega)
        go_wp2
        go_meet
        case rel => exact ⟨rfl, HM1, HB1⟩
  case rest =>
  clear y0 y1 y2 y3 y4 y5
  clear HM0 HB0 hip
  obtain ⟨rfl, HM1, HB1⟩ := hcut
  have z0 := blk_cell HM1.out.g 0
  have z1 := blk_cell HM1.out.g 1
  have z2 := blk_cell HM1.out.g 2
  have z3 := blk_cell HM1.out.g 3
  have z4 := blk_cell HM1.out.g 4
  have z5 := blk_cell HM1.out.g 5
  simp only [consCells, List.getElem?_toArray, List.getElem?_cons_zero, List.getElem?_cons_succ] at z0 z1 z2 z3 z4 z5
  cases dd with
  | true =>
    have HT := Lib.hid (tilde_call (C := C) ip _ HM1.out HIP.out (fun W hb => HC.out W (HB1.out.trans (hb.mono HB1.out.size))))
    go_wp2_with fail
    refine HT.out.mono ?_
    rintro e2 w2 ⟨⟨er, rfl⟩, hb⟩
    have HB2 := Lib.hid (HB1.out.trans (hb.mono HB1.out.size))
    have HR2 := Lib.hid (show R = tildeB C a1 a2 b1 b2 b3 md pd by rw [HR.out]; rfl)
    clear hb HB1 HT HR z0 z1 z2 z3 z4 z5
    have HR := HR2
    clear HR2
    generalize tildeB C a1 a2 b1 b2 b3 md pd = tb at *
    go_wp2
    go_ret2
    exact ⟨⟨_, by rw [HR.out]; rfl⟩, HB2.out⟩
  | false =>
    have HT := Lib.hid (fun W (hm : Mem W qv g q a1 a2 a3 b1 b2 b3 pa ma oa pb mb ob orig op md false pd) hb => equal_call hne W hm.v hm.c (HC.out W hb))
    go_wp2_with fail
    refine (HT.out _ HM1.out HB1.out).mono ?_
    rintro e2 w2 ⟨rfl, hb⟩
    have HM2 := Lib.hid (HM1.out.below hb)
    have HB2 := Lib.hid (HB1.out.trans (hb.mono HB1.out.size))
    clear hb HM1 HB1
    clear z0 z1 z2 z3 z4 z5
    clear HT
    by_cases hC : C = 0
    · have d1 : (C == 0) = true := beq_iff_eq.2 hC
      have HR2 := Lib.hid (show R = true by rw [HR.out]; exact d1)
      (try rw [d1])
      clear HR
      have HR := HR2
      clear HR2 hC
      go_wp2
      go_ret2
      exact ⟨⟨_, by rw [HR.out]; rfl⟩, HB2.out⟩
    · have d1 : (C == 0) = false := beq_eq_false_iff_ne.2 hC
      have HR2 := Lib.hid (show R = false by rw [HR.out]; exact d1)
      (try rw [d1])
      clear HR
      have HR := HR2
      clear HR2 hC
      go_wp2_with (go_at_call 25; refine (errors_New.calls _ _).mono ?_; rintro e99 w99 ⟨⟨x99, rfl⟩, hb⟩)
      go_ret2
      exact ⟨⟨_, by rw [HR.out]; rfl⟩, HB2.out.trans (hb.mono HB2.out.size)⟩
end Go.Proofs.YtlhijjfbcgconaaGreatDoor.P


/- Constraints: the choice of the test. -/
set_option linter.unusedVariables false
set_option linter.unusedSimpArgs false
namespace Go.Proofs.YtlhijjfbcgconaaGreatDoor.P
open Go.RowKit Go.Proofs.YtlhijjfbcgconaaGreatDoorW.PrintWords Go.Proofs.YtlhijjfbcgconaaGreatDoorW.PrintLast Go.Proofs.YtlhijjfbcgconaaGreatDoorW.PrintMore

set_option maxHeartbeats 3200000 in
set_option maxRecDepth 100000 in
theorem zzOp_0 (w : World) : Calls Tryz.prog 42 #[.string (opAt 0)] w fun e w' => e = .returned (.func (.func 53) #[] #[]) ∧ Below w.heap.size w w' := by
  show Calls Tryz.prog 42 #[.string ⟨#[61]⟩] w _
  go_enter Tryz.func42, Tryz.ntmps42
  go_wp2
  go_ret
  exact ⟨rfl, Below.refl _ _⟩
set_option maxHeartbeats 3200000 in
set_option maxRecDepth 100000 in
theorem zzOp_3 (w : World) : Calls Tryz.prog 42 #[.string (opAt 3)] w fun e w' => e = .returned (.func (.func 55) #[] #[]) ∧ Below w.heap.size w w' := by
  show Calls Tryz.prog 42 #[.string ⟨#[62]⟩] w _
  go_enter Tryz.func42, Tryz.ntmps42
  go_wp2
  go_ret
  exact ⟨rfl, Below.refl _ _⟩
set_option maxHeartbeats 3200000 in
set_option maxRecDepth 100000 in
theorem zzOp_4 (w : World) : Calls Tryz.prog 42 #[.string (opAt 4)] w fun e w' => e = .returned (.func (.func 56) #[] #[]) ∧ Below w.heap.size w w' := by
  show Calls Tryz.prog 42 #[.string ⟨#[60]⟩] w _
  go_enter Tryz.func42, Tryz.ntmps42
  go_wp2
  go_ret
  exact ⟨rfl, Below.refl _ _⟩
set_option maxHeartbeats 3200000 in
set_option maxRecDepth 100000 in
theorem zzOp_5 (w : World) : Calls Tryz.prog 42 #[.string (opAt 5)] w fun e w' => e = .returned (.func (.func 57) #[] #[]) ∧ Below w.heap.size w w' := by
  show Calls Tryz.prog 42 #[.string ⟨#[62, 61]⟩] w _
  go_enter Tryz.func42, Tryz.ntmps42
  go_wp2
  go_ret
  exact ⟨rfl, Below.refl _ _⟩
set_option maxHeartbeats 3200000 in
set_option maxRecDepth 100000 in
theorem zzOp_7 (w : World) : Calls Tryz.prog 42 #[.string (opAt 7)] w fun e w' => e = .returned (.func (.func 58) #[] #[]) ∧ Below w.heap.size w w' := by
  show Calls Tryz.prog 42 #[.string ⟨#[60, 61]⟩] w _
  go_enter Tryz.func42, Tryz.ntmps42
  go_wp2
  go_ret
  exact ⟨rfl, Below.refl _ _⟩
set_option maxHeartbeats 3200000 in
set_option maxRecDepth 100000 in
theorem check_TildeOrEqual {qv g q : Nat} {a1 a2 a3 b1 b2 b3 : Int} {pa ma oa pb mb ob orig op : ByteArray} {md dd pd : Bool} {B : Bool} (ip : Bool) (w : World) (hm : Mem w qv g q a1 a2 a3 b1 b2 b3 pa ma oa pb mb ob orig op md dd pd)
    (hop : ∀ W, Calls Tryz.prog 42 #[.string op] W fun e w' => e = .returned (.func (.func 53) #[] #[]) ∧ Below W.heap.size W w')
    (hf : ∀ W, Mem W qv g q a1 a2 a3 b1 b2 b3 pa ma oa pb mb ob orig op md dd pd → Below w.heap.size w W → Calls Tryz.prog 53 #[.pointer (some ⟨qv, 0, none⟩), .pointer (some ⟨g, 0, none⟩), .bool ip] W fun e w' => (∃ er, e = .returned (.tuple #[.bool B, er])) ∧ Below W.heap.size W w') :
    Calls Tryz.prog 29 #[.pointer (some ⟨g, 0, none⟩), .pointer (some ⟨qv, 0, none⟩), .bool ip] w fun e w' => (∃ er, e = .returned (.tuple #[.bool B, er])) ∧ Below w.heap.size w w' := by
  have HM0 := Lib.hid hm
  have HO := Lib.hid hop
  have HF := Lib.hid hf
  have HB0 := Lib.hid (Below.refl w.heap.size w)
  clear hm hop hf
  go_enter Tryz.func29, Tryz.ntmps29
  have z0 := blk_cell HM0.out.g 0
  have z1 := blk_cell HM0.out.g 1
  have z2 := blk_cell HM0.out.g 2
  have z3 := blk_cell HM0.out.g 3
  have z4 := blk_cell HM0.out.g 4
  have z5 := blk_cell HM0.out.g 5
  simp only [consCells, List.getElem?_toArray, List.getElem?_cons_zero, List.getElem?_cons_succ] at z0 z1 z2 z3 z4 z5
  go_wp2_with fail
  refine (HO.out _).mono ?_
  rintro e1 w1 ⟨rfl, hb⟩
  have HM1 := Lib.hid (HM0.out.below hb)
  have HB1 := Lib.hid (HB0.out.trans (hb.mono HB0.out.size))
  clear hb HM0 HB0
  clear z0 z1 z2 z3 z4 z5
  go_wp2_with fail
  refine (HF.out _ HM1.out HB1.out).mono ?_
  rintro e2 w2 ⟨⟨er, rfl⟩, hb⟩
  have HB2 := Lib.hid (HB1.out.trans (hb.mono HB1.out.size))
  clear hb HB1 HM1
  go_wp2
  go_ret2
  exact ⟨⟨_, rfl⟩, HB2.out⟩
set_option maxHeartbeats 3200000 in
set_option maxRecDepth 100000 in
theorem check_GreaterThan {qv g q : Nat} {a1 a2 a3 b1 b2 b3 : Int} {pa ma oa pb mb ob orig op : ByteArray} {md dd pd : Bool} {B : Bool} (ip : Bool) (w : World) (hm : Mem w qv g q a1 a2 a3 b1 b2 b3 pa ma oa pb mb ob orig op md dd pd)
    (hop : ∀ W, Calls Tryz.prog 42 #[.string op] W fun e w' => e = .returned (.func (.func 55) #[] #[]) ∧ Below W.heap.size W w')
    (hf : ∀ W, Mem W qv g q a1 a2 a3 b1 b2 b3 pa ma oa pb mb ob orig op md dd pd → Below w.heap.size w W → Calls Tryz.prog 55 #[.pointer (some ⟨qv, 0, none⟩), .pointer (some ⟨g, 0, none⟩), .bool ip] W fun e w' => (∃ er, e = .returned (.tuple #[.bool B, er])) ∧ Below W.heap.size W w') :
    Calls Tryz.prog 29 #[.pointer (some ⟨g, 0, none⟩), .pointer (some ⟨qv, 0, none⟩), .bool ip] w fun e w' => (∃ er, e = .returned (.tuple #[.bool B, er])) ∧ Below w.heap.size w w' := by
  have HM0 := Lib.hid hm
  have HO := Lib.hid hop
  have HF := Lib.hid hf
  have HB0 := Lib.hid (Below.refl w.heap.size w)
  clear hm hop hf
  go_enter Tryz.func29, Tryz.ntmps29
  have z0 := blk_cell HM0.out.g 0
  have z1 := blk_cell HM0.out.g 1
  have z2 := blk_cell HM0.out.g 2
  have z3 := blk_cell HM0.out.g 3
  have z4 := blk_cell HM0.out.g 4
  have z5 := blk_cell HM0.out.g 5
  simp only [consCells, List.getElem?_toArray, List.getElem?_cons_zero, List.getElem?_cons_succ] at z0 z1 z2 z3 z4 z5
  go_wp2_with fail
  refine (HO.out _).mono ?_
  rintro e1 w1 ⟨rfl, hb⟩
  have HM1 := Lib.hid (HM0.out.below hb)
  have HB1 := Lib.hid (HB0.out.trans (hb.mono HB0.out.size))
  clear hb HM0 HB0
  clear z0 z1 z2 z3 z4 z5
  go_wp2_with fail
  refine (HF.out _ HM1.out HB1.out).mono ?_
  rintro e2 w2 ⟨⟨er, rfl⟩, hb⟩
  have HB2 := Lib.hid (HB1.out.trans (hb.mono HB1.out.size))
  clear hb HB1 HM1
  go_wp2
  go_ret2
  exact ⟨⟨_, rfl⟩, HB2.out⟩
set_option maxHeartbeats 3200000 in
set_option maxRecDepth 100000 in
theorem check_LessThan {qv g q : Nat} {a1 a2 a3 b1 b2 b3 : Int} {pa ma oa pb mb ob orig op : ByteArray} {md dd pd : Bool} {B : Bool} (ip : Bool) (w : World) (hm : Mem w qv g q a1 a2 a3 b1 b2 b3 pa ma oa pb mb ob orig op md dd pd)
    (hop : ∀ W, Calls Tryz.prog 42 #[.string op] W fun e w' => e = .returned (.func (.func 56) #[] #[]) ∧ Below W.heap.size W w')
    (hf : ∀ W, Mem W qv g q a1 a2 a3 b1 b2 b3 pa ma oa pb mb ob orig op md dd pd → Below w.heap.size w W → Calls Tryz.prog 56 #[.pointer (some ⟨qv, 0, none⟩), .pointer (some ⟨g, 0, none⟩), .bool ip] W fun e w' => (∃ er, e = .returned (.tuple #[.bool B, er])) ∧ Below W.heap.size W w') :
    Calls Tryz.prog 29 #[.pointer (some ⟨g, 0, none⟩), .pointer (some ⟨qv, 0, none⟩), .bool ip] w fun e w' => (∃ er, e = .returned (.tuple #[.bool B, er])) ∧ Below w.heap.size w w' := by
  have HM0 := Lib.hid hm
  have HO := Lib.hid hop
  have HF := Lib.hid hf
  have HB0 := Lib.hid (Below.refl w.heap.size w)
  clear hm hop hf
  go_enter Tryz.func29, Tryz.ntmps29
  have z0 := blk_cell HM0.out.g 0
  have z1 := blk_cell HM0.out.g 1
  have z2 := blk_cell HM0.out.g 2
  have z3 := blk_cell HM0.out.g 3
  have z4 := blk_cell HM0.out.g 4
  have z5 := blk_cell HM0.out.g 5
  simp only [consCells, List.getElem?_toArray, List.getElem?_cons_zero, List.getElem?_cons_succ] at z0 z1 z2 z3 z4 z5
  go_wp2_with fail
  refine (HO.out _).mono ?_
  rintro e1 w1 ⟨rfl, hb⟩
  have HM1 := Lib.hid (HM0.out.below hb)
  have HB1 := Lib.hid (HB0.out.trans (hb.mono HB0.out.size))
  clear hb HM0 HB0
  clear z0 z1 z2 z3 z4 z5
  go_wp2_with fail
  refine (HF.out _ HM1.out HB1.out).mono ?_
  rintro e2 w2 ⟨⟨er, rfl⟩, hb⟩
  have HB2 := Lib.hid (HB1.out.trans (hb.mono HB1.out.size))
  clear hb HB1 HM1
  go_wp2
  go_ret2
  exact ⟨⟨_, rfl⟩, HB2.out⟩
set_option maxHeartbeats 3200000 in
set_option maxRecDepth 100000 in
theorem check_GreaterThanEqual {qv g q : Nat} {a1 a2 a3 b1 b2 b3 : Int} {pa ma oa pb mb ob orig op : ByteArray} {md dd pd : Bool} {B : Bool} (ip : Bool) (w : World) (hm : Mem w qv g q a1 a2 a3 b1 b2 b3 pa ma oa pb mb ob orig op md dd pd)
    (hop : ∀ W, Calls Tryz.prog 42 #[.string op] W fun e w' => e = .returned (.func (.func 57) #[] #[]) ∧ Below W.heap.size W w')
    (hf : ∀ W, Mem W qv g q a1 a2 a3 b1 b2 b3 pa ma oa pb mb ob orig op md dd pd → Below w.heap.size w W → Calls Tryz.prog 57 #[.pointer (some ⟨qv, 0, none⟩), .pointer (some ⟨g, 0, none⟩), .bool ip] W fun e w' => (∃ er, e = .returned (.tuple #[.bool B, er])) ∧ Below W.heap.size W w') :
    Calls Tryz.prog 29 #[.pointer (some ⟨g, 0, none⟩), .pointer (some ⟨qv, 0, none⟩), .bool ip] w fun e w' => (∃ er, e = .returned (.tuple #[.bool B, er])) ∧ Below w.heap.size w w' := by
  have HM0 := Lib.hid hm
  have HO := Lib.hid hop
  have HF := Lib.hid hf
  have HB0 := Lib.hid (Below.refl w.heap.size w)
  clear hm hop hf
  go_enter Tryz.func29, Tryz.ntmps29
  have z0 := blk_cell HM0.out.g 0
  have z1 := blk_cell HM0.out.g 1
  have z2 := blk_cell HM0.out.g 2
  have z3 := blk_cell HM0.out.g 3
  have z4 := blk_cell HM0.out.g 4
  have z5 := blk_cell HM0.out.g 5
  simp only [consCells, List.getElem?_toArray, List.getElem?_cons_zero, List.getElem?_cons_succ] at z0 z1 z2 z3 z4 z5
  go_wp2_with fail
  refine (HO.out _).mono ?_
  rintro e1 w1 ⟨rfl, hb⟩
  have HM1 := Lib.hid (HM0.out.below hb)
  have HB1 := Lib.hid (HB0.out.trans (hb.mono HB0.out.size))
  clear hb HM0 HB0
  clear z0 z1 z2 z3 z4 z5
  go_wp2_with fail
  refine (HF.out _ HM1.out HB1.out).mono ?_
  rintro e2 w2 ⟨⟨er, rfl⟩, hb⟩
  have HB2 := Lib.hid (HB1.out.trans (hb.mono HB1.out.size))
  clear hb HB1 HM1
  go_wp2
  go_ret2
  exact ⟨⟨_, rfl⟩, HB2.out⟩
set_option maxHeartbeats 3200000 in
set_option maxRecDepth 100000 in
theorem check_LessThanEqual {qv g q : Nat} {a1 a2 a3 b1 b2 b3 : Int} {pa ma oa pb mb ob orig op : ByteArray} {md dd pd : Bool} {B : Bool} (ip : Bool) (w : World) (hm : Mem w qv g q a1 a2 a3 b1 b2 b3 pa ma oa pb mb ob orig op md dd pd)
    (hop : ∀ W, Calls Tryz.prog 42 #[.string op] W fun e w' => e = .returned (.func (.func 58) #[] #[]) ∧ Below W.heap.size W w')
    (hf : ∀ W, Mem W qv g q a1 a2 a3 b1 b2 b3 pa ma oa pb mb ob orig op md dd pd → Below w.heap.size w W → Calls Tryz.prog 58 #[.pointer (some ⟨qv, 0, none⟩), .pointer (some ⟨g, 0, none⟩), .bool ip] W fun e w' => (∃ er, e = .returned (.tuple #[.bool B, er])) ∧ Below W.heap.size W w') :
    Calls Tryz.prog 29 #[.pointer (some ⟨g, 0, none⟩), .pointer (some ⟨qv, 0, none⟩), .bool ip] w fun e w' => (∃ er, e = .returned (.tuple #[.bool B, er])) ∧ Below w.heap.size w w' := by
  have HM0 := Lib.hid hm
  have HO := Lib.hid hop
  have HF := Lib.hid hf
  have HB0 := Lib.hid (Below.refl w.heap.size w)
  clear hm hop hf
  go_enter Tryz.func29, Tryz.ntmps29
  have z0 := blk_cell HM0.out.g 0
  have z1 := blk_cell HM0.out.g 1
  have z2 := blk_cell HM0.out.g 2
  have z3 := blk_cell HM0.out.g 3
  have z4 := blk_cell HM0.out.g 4
  have z5 := blk_cell HM0.out.g 5
  simp only [consCells, List.getElem?_toArray, List.getElem?_cons_zero, List.getElem?_cons_succ] at z0 z1 z2 z3 z4 z5
  go_wp2_with fail
  refine (HO.out _).mono ?_
  rintro e1 w1 ⟨rfl, hb⟩
  have HM1 := Lib.hid (HM0.out.below hb)
  have HB1 := Lib.hid (HB0.out.trans (hb.mono HB0.out.size))
  clear hb HM0 HB0
  clear z0 z1 z2 z3 z4 z5
  go_wp2_with fail
  refine (HF.out _ HM1.out HB1.out).mono ?_
  rintro e2 w2 ⟨⟨er, rfl⟩, hb⟩
  have HB2 := Lib.hid (HB1.out.trans (hb.mono HB1.out.size))
  clear hb HB1 HM1
  go_wp2
  go_ret2
  exact ⟨⟨_, rfl⟩, HB2.out⟩
end Go.Proofs.YtlhijjfbcgconaaGreatDoor.P


/- Constraints: greater, less; the tests that refuse. -/
set_option linter.unusedVariables false
set_option linter.unusedSimpArgs false
namespace Go.Proofs.YtlhijjfbcgconaaGreatDoor.P
open Go.RowKit Go.Proofs.YtlhijjfbcgconaaGreatDoorW.PrintWords Go.Proofs.YtlhijjfbcgconaaGreatDoorW.PrintLast Go.Proofs.YtlhijjfbcgconaaGreatDoorW.PrintMore

set_option maxHeartbeats 3200000 in
set_option maxRecDepth 100000 in
theorem gt_call {qv g q : Nat} {a1 a2 a3 b1 b2 b3 : Int} {pa ma oa pb mb ob orig op : ByteArray} {md dd pd : Bool} {C : Int} (ip : Bool) (hdd : dd = false)  (w : World) (hm : Mem w qv g q a1 a2 a3 b1 b2 b3 pa ma oa pb mb ob orig op md dd pd) (hip : pa.size = 0 ∨ ip = true) (hcmp : ∀ W, Below w.heap.size w W → Calls Tryz.prog 77 #[.pointer (some ⟨qv, 0, none⟩), .pointer (some ⟨q, 0, none⟩)] W fun e w' => e = .returned (.int .i64 C) ∧ Below W.heap.size W w') :
    Calls Tryz.prog 55 #[.pointer (some ⟨qv, 0, none⟩), .pointer (some ⟨g, 0, none⟩), .bool ip] w fun e w' => (∃ er, e = .returned (.tuple #[.bool (C == 1), er])) ∧ Below w.heap.size w w' := by
  have HM0 := Lib.hid hm
  have HC := Lib.hid hcmp
  have HB0 := Lib.hid (Below.refl w.heap.size w)
  obtain ⟨R, hR⟩ : ∃ R, R = (C == 1) := ⟨_, rfl⟩
  have HR := Lib.hid hR
  clear hm hcmp
  rw [← hR]
  clear hR
  subst hdd
  go_enter Tryz.func55, Tryz.ntmps55
  have y0 := blk_cell HM0.out.v 0
  have y1 := blk_cell HM0.out.v 1
  have y2 := blk_cell HM0.out.v 2
  have y3 := blk_cell HM0.out.v 3
  have y4 := blk_cell HM0.out.v 4
  have y5 := blk_cell HM0.out.v 5
  simp only [verCells, List.getElem?_toArray, List.getElem?_cons_zero, List.getElem?_cons_succ] at y0 y1 y2 y3 y4 y5
  go_upto_region 1 with fail
  go_cut [17] from 9 to 17 (fun v wc => v = .bool false ∧ Hid (Mem wc qv g q a1 a2 a3 b1 b2 b3 pa ma oa pb mb ob orig op md false pd) ∧ Hid (Below w.heap.size w wc))
  case first =>
    go_wp2_with fail
    refine (verPrerelease_call a1 a2 a3 pa ma oa _).mono ?_
    rintro e1 w1 ⟨rfl, hb⟩
    have HM1 := Lib.hid (HM0.out.below hb)
    have HB1 := Lib.hid (HB0.out.trans (hb.mono HB0.out.size))
    clear hb HM0 HB0
    clear y0 y1 y2 y3 y4 y5
    rcases hip with hip | hip
    · have hn : (pa.toList == []) = true := by rw [show pa = ⟨#[]⟩ from ba_ext (List.eq_nil_of_length_eq_zero (by rw [size_list]; exact hip))]; decide +kernel
      have hn2 : (pa.toList != []) = false := by rw [bne, hn]; rfl
      have hn3 : pa.toList.isEmpty = true := by rw [show pa = ⟨#[]⟩ from ba_ext (List.eq_nil_of_length_eq_zero (by rw [size_list]; exact hip))]; decide +kernel
      clear hip
      go_wp2
      go_meet
      case rel => exact ⟨rfl, HM1, HB1⟩
    · subst hip
      by_cases hz : pa.size = 0
      · have hn3 : pa.toList.isEmpty = true := by rw [show pa = ⟨#[]⟩ from ba_ext (List.eq_nil_of_length_eq_zero (by rw [size_list]; exact hz))]; decide +kernel
        go_wp2
        go_meet
        case rel => exact ⟨rfl, HM1, HB1⟩
      · have hn3 := full_t (show 0 < pa.size by omega)
        go_wp2
        go_meet
        case rel => exact ⟨rfl, HM1, HB1⟩
  case rest =>
  clear y0 y1 y2 y3 y4 y5
  clear HM0 HB0 hip
  obtain ⟨rfl, HM1, HB1⟩ := hcut
  have z0 := blk_cell HM1.out.g 0
  have z1 := blk_cell HM1.out.g 1
  have z2 := blk_cell HM1.out.g 2
  have z3 := blk_cell HM1.out.g 3
  have z4 := blk_cell HM1.out.g 4
  have z5 := blk_cell HM1.out.g 5
  simp only [consCells, List.getElem?_toArray, List.getElem?_cons_zero, List.getElem?_cons_succ] at z0 z1 z2 z3 z4 z5
  go_wp2_with fail
  refine (HC.out _ HB1.out).mono ?_
  rintro e2 w2 ⟨rfl, hb⟩
  have HM2 := Lib.hid (HM1.out.below hb)
  have HB2 := Lib.hid (HB1.out.trans (hb.mono HB1.out.size))
  clear hb HM1 HB1
  clear z0 z1 z2 z3 z4 z5
  by_cases hC : C = 1
  · have d1 : (C == 1) = true := beq_iff_eq.2 hC
    have HR2 := Lib.hid (show R = true by rw [HR.out]; exact d1)
    (try rw [d1])
    clear HR
    have HR := HR2
    clear HR2 hC
    go_wp2
    go_ret2
    exact ⟨⟨_, by rw [HR.out]; rfl⟩, HB2.out⟩
  · have d1 : (C == 1) = false := beq_eq_false_iff_ne.2 hC
    have HR2 := Lib.hid (show R = false by rw [HR.out]; exact d1)
    (try rw [d1])
    clear HR
    have HR := HR2
    clear HR2 hC
    go_wp2_with (go_at_call 25; refine (errors_New.calls _ _).mono ?_; rintro e99 w99 ⟨⟨x99, rfl⟩, hb⟩)
    go_ret2
    exact ⟨⟨_, by rw [HR.out]; rfl⟩, HB2.out.trans (hb.mono HB2.out.size)⟩
set_option maxHeartbeats 3200000 in
set_option maxRecDepth 100000 in
theorem ltc_call {qv g q : Nat} {a1 a2 a3 b1 b2 b3 : Int} {pa ma oa pb mb ob orig op : ByteArray} {md dd pd : Bool} {C : Int} (ip : Bool)  (w : World) (hm : Mem w qv g q a1 a2 a3 b1 b2 b3 pa ma oa pb mb ob orig op md dd pd) (hip : pa.size = 0 ∨ ip = true) (hcmp : ∀ W, Below w.heap.size w W → Calls Tryz.prog 77 #[.pointer (some ⟨qv, 0, none⟩), .pointer (some ⟨q, 0, none⟩)] W fun e w' => e = .returned (.int .i64 C) ∧ Below W.heap.size W w') :
    Calls Tryz.prog 56 #[.pointer (some ⟨qv, 0, none⟩), .pointer (some ⟨g, 0, none⟩), .bool ip] w fun e w' => (∃ er, e = .returned (.tuple #[.bool (decide (C < 0)), er])) ∧ Below w.heap.size w w' := by
  have HM0 := Lib.hid hm
  have HC := Lib.hid hcmp
  have HB0 := Lib.hid (Below.refl w.heap.size w)
  obtain ⟨R, hR⟩ : ∃ R, R = (decide (C < 0)) := ⟨_, rfl⟩
  have HR := Lib.hid hR
  clear hm hcmp
  rw [← hR]
  clear hR
  go_enter Tryz.func56, Tryz.ntmps56
  have y0 := blk_cell HM0.out.v 0
  have y1 := blk_cell HM0.out.v 1
  have y2 := blk_cell HM0.out.v 2
  have y3 := blk_cell HM0.out.v 3
  have y4 := blk_cell HM0.out.v 4
  have y5 := blk_cell HM0.out.v 5
  simp only [verCells, List.getElem?_toArray, List.getElem?_cons_zero, List.getElem?_cons_succ] at y0 y1 y2 y3 y4 y5
  go_upto_region 1 with fail
  go_cut [17] from 9 to 17 (fun v wc => v = .bool false ∧ Hid (Mem wc qv g q a1 a2 a3 b1 b2 b3 pa ma oa pb mb ob orig op md dd pd) ∧ Hid (Below w.heap.size w wc))
  case first =>
    go_wp2_with fail
    refine (verPrerelease_call a1 a2 a3 pa ma oa _).mono ?_
    rintro e1 w1 ⟨rfl, hb⟩
    have HM1 := Lib.hid (HM0.out.below hb)
    have HB1 := Lib.hid (HB0.out.trans (hb.mono HB0.out.size))
    clear hb HM0 HB0
    clear y0 y1 y2 y3 y4 y5
    rcases hip with hip | hip
    · have hn : (pa.toList == []) = true := by rw [show pa = ⟨#[]⟩ from ba_ext (List.eq_nil_of_length_eq_zero (by rw [size_list]; exact hip))]; decide +kernel
      have hn2 : (pa.toList != []) = false := by rw [bne, hn]; rfl
      have hn3 : pa.toList.isEmpty = true := by rw [show pa = ⟨#[]⟩ from ba_ext (List.eq_nil_of_length_eq_zero (by rw [size_list]; exact hip))]; decide +kernel
      clear hip
      go_wp2
      go_meet
      case rel => exact ⟨rfl, HM1, HB1⟩
    · subst hip
      by_cases hz : pa.size = 0
      · have hn3 : pa.toList.isEmpty = true := by rw [show pa = ⟨#[]⟩ from ba_ext (List.eq_nil_of_length_eq_zero (by rw [size_list]; exact hz))]; decide +kernel
        go_wp2
        go_meet
        case rel => exact ⟨rfl, HM1, HB1⟩
      · have hn3 := full_t (show 0 < pa.size by omega)
        go_wp2
        go_meet
        case rel => exact ⟨rfl, HM1, HB1⟩
  case rest =>
  clear y0 y1 y2 y3 y4 y5
  clear HM0 HB0 hip
  obtain ⟨rfl, HM1, HB1⟩ := hcut
  have z0 := blk_cell HM1.out.g 0
  have z1 := blk_cell HM1.out.g 1
  have z2 := blk_cell HM1.out.g 2
  have z3 := blk_cell HM1.out.g 3
  have z4 := blk_cell HM1.out.g 4
  have z5 := blk_cell HM1.out.g 5
  simp only [consCells, List.getElem?_toArray, List.getElem?_cons_zero, List.getElem?_cons_succ] at z0 z1 z2 z3 z4 z5
  go_wp2_with fail
  refine (HC.out _ HB1.out).mono ?_
  rintro e2 w2 ⟨rfl, hb⟩
  have HM2 := Lib.hid (HM1.out.below hb)
  have HB2 := Lib.hid (HB1.out.trans (hb.mono HB1.out.size))
  clear hb HM1 HB1
  clear z0 z1 z2 z3 z4 z5
  by_cases hC : C < 0
  · have d1 : decide (C < 0) = true := decide_eq_true hC
    have HR2 := Lib.hid (show R = true by rw [HR.out]; exact d1)
    (try rw [d1])
    clear HR
    have HR := HR2
    clear HR2 hC
    go_wp2
    go_ret2
    exact ⟨⟨_, by rw [HR.out]; rfl⟩, HB2.out⟩
  · have d1 : decide (C < 0) = false := decide_eq_false hC
    have HR2 := Lib.hid (show R = false by rw [HR.out]; exact d1)
    (try rw [d1])
    clear HR
    have HR := HR2
    clear HR2 hC
    go_wp2_with (go_at_call 25; refine (errors_New.calls _ _).mono ?_; rintro e99 w99 ⟨⟨x99, rfl⟩, hb⟩)
    go_ret2
    exact ⟨⟨_, by rw [HR.out]; rfl⟩, HB2.out.trans (hb.mono HB2.out.size)⟩
set_option maxHeartbeats 3200000 in
set_option maxRecDepth 100000 in
theorem no_teq {qv g q : Nat} {a1 a2 a3 b1 b2 b3 : Int} {pa ma oa pb mb ob orig op : ByteArray} {md dd pd : Bool} (w : World) (hm : Mem w qv g q a1 a2 a3 b1 b2 b3 pa ma oa pb mb ob orig op md dd pd) (hz : 0 < pa.size) :
    Calls Tryz.prog 53 #[.pointer (some ⟨qv, 0, none⟩), .pointer (some ⟨g, 0, none⟩), .bool false] w fun e w' => (∃ er, e = .returned (.tuple #[.bool false, er])) ∧ Below w.heap.size w w' := by
  have HM0 := Lib.hid hm
  have HB0 := Lib.hid (Below.refl w.heap.size w)
  have hn3 := full_t hz
  clear hm hz
  go_enter Tryz.func53, Tryz.ntmps53
  have y0 := blk_cell HM0.out.v 0
  have y1 := blk_cell HM0.out.v 1
  have y2 := blk_cell HM0.out.v 2
  have y3 := blk_cell HM0.out.v 3
  have y4 := blk_cell HM0.out.v 4
  have y5 := blk_cell HM0.out.v 5
  simp only [verCells, List.getElem?_toArray, List.getElem?_cons_zero, List.getElem?_cons_succ] at y0 y1 y2 y3 y4 y5
  go_upto_region 1 with fail
  go_wp2_with fail
  refine (verPrerelease_call a1 a2 a3 pa ma oa _).mono ?_
  rintro e1 w1 ⟨rfl, hb⟩
  have HM1 := Lib.hid (HM0.out.below hb)
  have HB1 := Lib.hid (HB0.out.trans (hb.mono HB0.out.size))
  clear hb HM0 HB0
  clear y0 y1 y2 y3 y4 y5
  go_wp2_with (go_at_call 25; refine (errors_New.calls _ _).mono ?_; rintro e99 w99 ⟨⟨x99, rfl⟩, hb⟩)
  go_ret2
  exact ⟨⟨_, rfl⟩, HB1.out.trans (hb.mono HB1.out.size)⟩
set_option maxHeartbeats 3200000 in
set_option maxRecDepth 100000 in
theorem no_gt {qv g q : Nat} {a1 a2 a3 b1 b2 b3 : Int} {pa ma oa pb mb ob orig op : ByteArray} {md dd pd : Bool} (w : World) (hm : Mem w qv g q a1 a2 a3 b1 b2 b3 pa ma oa pb mb ob orig op md dd pd) (hz : 0 < pa.size) :
    Calls Tryz.prog 55 #[.pointer (some ⟨qv, 0, none⟩), .pointer (some ⟨g, 0, none⟩), .bool false] w fun e w' => (∃ er, e = .returned (.tuple #[.bool false, er])) ∧ Below w.heap.size w w' := by
  have HM0 := Lib.hid hm
  have HB0 := Lib.hid (Below.refl w.heap.size w)
  have hn3 := full_t hz
  clear hm hz
  go_enter Tryz.func55, Tryz.ntmps55
  have y0 := blk_cell HM0.out.v 0
  have y1 := blk_cell HM0.out.v 1
  have y2 := blk_cell HM0.out.v 2
  have y3 := blk_cell HM0.out.v 3
  have y4 := blk_cell HM0.out.v 4
  have y5 := blk_cell HM0.out.v 5
  simp only [verCells, List.getElem?_toArray, List.getElem?_cons_zero, List.getElem?_cons_succ] at y0 y1 y2 y3 y4 y5
  go_upto_region 1 with fail
  go_wp2_with fail
  refine (verPrerelease_call a1 a2 a3 pa ma oa _).mono ?_
  rintro e1 w1 ⟨rfl, hb⟩
  have HM1 := Lib.hid (HM0.out.below hb)
  have HB1 := Lib.hid (HB0.out.trans (hb.mono HB0.out.size))
  clear hb HM0 HB0
  clear y0 y1 y2 y3 y4 y5
  go_wp2_with (go_at_call 25; refine (errors_New.calls _ _).mono ?_; rintro e99 w99 ⟨⟨x99, rfl⟩, hb⟩)
  go_ret2
  exact ⟨⟨_, rfl⟩, HB1.out.trans (hb.mono HB1.out.size)⟩
set_option maxHeartbeats 3200000 in
set_option maxRecDepth 100000 in
theorem no_lt {qv g q : Nat} {a1 a2 a3 b1 b2 b3 : Int} {pa ma oa pb mb ob orig op : ByteArray} {md dd pd : Bool} (w : World) (hm : Mem w qv g q a1 a2 a3 b1 b2 b3 pa ma oa pb mb ob orig op md dd pd) (hz : 0 < pa.size) :
    Calls Tryz.prog 56 #[.pointer (some ⟨qv, 0, none⟩), .pointer (some ⟨g, 0, none⟩), .bool false] w fun e w' => (∃ er, e = .returned (.tuple #[.bool false, er])) ∧ Below w.heap.size w w' := by
  have HM0 := Lib.hid hm
  have HB0 := Lib.hid (Below.refl w.heap.size w)
  have hn3 := full_t hz
  clear hm hz
  go_enter Tryz.func56, Tryz.ntmps56
  have y0 := blk_cell HM0.out.v 0
  have y1 := blk_cell HM0.out.v 1
  have y2 := blk_cell HM0.out.v 2
  have y3 := blk_cell HM0.out.v 3
  have y4 := blk_cell HM0.out.v 4
  have y5 := blk_cell HM0.out.v 5
  simp only [verCells, List.getElem?_toArray, List.getElem?_cons_zero, List.getElem?_cons_succ] at y0 y1 y2 y3 y4 y5
  go_upto_region 1 with fail
  go_wp2_with fail
  refine (verPrerelease_call a1 a2 a3 pa ma oa _).mono ?_
  rintro e1 w1 ⟨rfl, hb⟩
  have HM1 := Lib.hid (HM0.out.below hb)
  have HB1 := Lib.hid (HB0.out.trans (hb.mono HB0.out.size))
  clear hb HM0 HB0
  clear y0 y1 y2 y3 y4 y5
  go_wp2_with (go_at_call 25; refine (errors_New.calls _ _).mono ?_; rintro e99 w99 ⟨⟨x99, rfl⟩, hb⟩)
  go_ret2
  exact ⟨⟨_, rfl⟩, HB1.out.trans (hb.mono HB1.out.size)⟩
set_option maxHeartbeats 3200000 in
set_option maxRecDepth 100000 in
theorem no_gte {qv g q : Nat} {a1 a2 a3 b1 b2 b3 : Int} {pa ma oa pb mb ob orig op : ByteArray} {md dd pd : Bool} (w : World) (hm : Mem w qv g q a1 a2 a3 b1 b2 b3 pa ma oa pb mb ob orig op md dd pd) (hz : 0 < pa.size) :
    Calls Tryz.prog 57 #[.pointer (some ⟨qv, 0, none⟩), .pointer (some ⟨g, 0, none⟩), .bool false] w fun e w' => (∃ er, e = .returned (.tuple #[.bool false, er])) ∧ Below w.heap.size w w' := by
  have HM0 := Lib.hid hm
  have HB0 := Lib.hid (Below.refl w.heap.size w)
  have hn3 := full_t hz
  clear hm hz
  go_enter Tryz.func57, Tryz.ntmps57
  have y0 := blk_cell HM0.out.v 0
  have y1 := blk_cell HM0.out.v 1
  have y2 := blk_cell HM0.out.v 2
  have y3 := blk_cell HM0.out.v 3
  have y4 := blk_cell HM0.out.v 4
  have y5 := blk_cell HM0.out.v 5
  simp only [verCells, List.getElem?_toArray, List.getElem?_cons_zero, List.getElem?_cons_succ] at y0 y1 y2 y3 y4 y5
  go_upto_region 1 with fail
  go_wp2_with fail
  refine (verPrerelease_call a1 a2 a3 pa ma oa _).mono ?_
  rintro e1 w1 ⟨rfl, hb⟩
  have HM1 := Lib.hid (HM0.out.below hb)
  have HB1 := Lib.hid (HB0.out.trans (hb.mono HB0.out.size))
  clear hb HM0 HB0
  clear y0 y1 y2 y3 y4 y5
  go_wp2_with (go_at_call 25; refine (errors_New.calls _ _).mono ?_; rintro e99 w99 ⟨⟨x99, rfl⟩, hb⟩)
  go_ret2
  exact ⟨⟨_, rfl⟩, HB1.out.trans (hb.mono HB1.out.size)⟩
set_option maxHeartbeats 3200000 in
set_option maxRecDepth 100000 in
theorem no_lte {qv g q : Nat} {a1 a2 a3 b1 b2 b3 : Int} {pa ma oa pb mb ob orig op : ByteArray} {md dd pd : Bool} (w : World) (hm : Mem w qv g q a1 a2 a3 b1 b2 b3 pa ma oa pb mb ob orig op md dd pd) (hz : 0 < pa.size) :
    Calls Tryz.prog 58 #[.pointer (some ⟨qv, 0, none⟩), .pointer (some ⟨g, 0, none⟩), .bool false] w fun e w' => (∃ er, e = .returned (.tuple #[.bool false, er])) ∧ Below w.heap.size w w' := by
  have HM0 := Lib.hid hm
  have HB0 := Lib.hid (Below.refl w.heap.size w)
  have hn3 := full_t hz
  clear hm hz
  go_enter Tryz.func58, Tryz.ntmps58
  have y0 := blk_cell HM0.out.v 0
  have y1 := blk_cell HM0.out.v 1
  have y2 := blk_cell HM0.out.v 2
  have y3 := blk_cell HM0.out.v 3
  have y4 := blk_cell HM0.out.v 4
  have y5 := blk_cell HM0.out.v 5
  simp only [verCells, List.getElem?_toArray, List.getElem?_cons_zero, List.getElem?_cons_succ] at y0 y1 y2 y3 y4 y5
  go_upto_region 1 with fail
  go_wp2_with fail
  refine (verPrerelease_call a1 a2 a3 pa ma oa _).mono ?_
  rintro e1 w1 ⟨rfl, hb⟩
  have HM1 := Lib.hid (HM0.out.below hb)
  have HB1 := Lib.hid (HB0.out.trans (hb.mono HB0.out.size))
  clear hb HM0 HB0
  clear y0 y1 y2 y3 y4 y5
  go_wp2_with (go_at_call 25; refine (errors_New.calls _ _).mono ?_; rintro e99 w99 ⟨⟨x99, rfl⟩, hb⟩)
  go_ret2
  exact ⟨⟨_, rfl⟩, HB1.out.trans (hb.mono HB1.out.size)⟩
end Go.Proofs.YtlhijjfbcgconaaGreatDoor.P

