/- Texts joined: Rg9, Rg10, Rg11, Rg12, Rg13. -/
import Derived.Test.YtlhijjfbcgconaaGreatDoorZRgA
import Derived.Test.YtlhijjfbcgconaaGreatDoorZRgB

/- Constraints: a text without white space is not rewritten. -/
set_option linter.unusedVariables false
set_option linter.unusedSimpArgs false
namespace Go.Proofs.YtlhijjfbcgconaaGreatDoor.P
open Go.RowKit Go.Proofs.YtlhijjfbcgconaaGreatDoorW.PrintWords Go.Proofs.YtlhijjfbcgconaaGreatDoorW.PrintLast Go.Proofs.YtlhijjfbcgconaaGreatDoorW.PrintMore

set_option maxHeartbeats 3200000 in
set_option maxRecDepth 100000 in
theorem rewrite_id {s : ByteArray} (hs : s.size ≤ 1000) (hn : ∀ j, j < s.size → ¬ isS (bt s (j : Int))) (w : World) :
    Calls Tryz.prog 22 #[.string s] w fun e' w' => e' = .returned (.string s) ∧ Below w.heap.size w w' := by
  have HN := Lib.hid hn
  have HSP := Lib.hid (fun (i : Nat) (hi : i ≤ s.size) W => space_call (space_f s (by omega) i i (Nat.le_refl _) hi (if h : i = s.size then .inl h else .inr (hn i (by omega))) (fun j h1 h2 => absurd h2 (by omega))) W)
  have HB0 := Lib.hid (Below.refl w.heap.size w)
  clear hn
  go_enter Tryz.func22, Tryz.ntmps22
  go_upto_region 3 with fail
  go_loopw [3, 4] (fun x3 x4 wr => ∃ i : Nat, i ≤ s.size ∧ x4 = .int .i64 (i : Int) ∧ x3 = .string s ∧ Hid (Below w.heap.size w wr)) (fun _ x4 _ => s.size - (intOf x4).toNat)
  case atStart => exact ⟨0, Nat.zero_le _, rfl, rfl, HB0⟩
  case round =>
    clear HB0
    obtain ⟨i, hi, rfl, rfl, HB1⟩ := hrel
    by_cases hlt : i < s.size
    · have d0 : decide ((i : Int) < (s.size : Int)) = true := decide_eq_true (by omega)
      have HS := Lib.hid (HSP.out i hi)
      go_wp2_with fail
      refine (HS.out _).mono ?_
      rintro e2 w2 ⟨rfl, hb⟩
      have HB2 := Lib.hid (HB1.out.trans (hb.mono HB1.out.size))
      clear hb HB1
      clear HS
      rcases ver_ex s (by omega) i hi with hv | ⟨e, m0, m1, m2, m3, i0, a, b, c, d, hv, hie⟩
      · have HV := Lib.hid (fun W => zzVersion_no hs hv W)
        unfold four at HV
        clear hv
        go_wp2_with fail
        refine (HV.out _).mono ?_
        rintro e3 w3 ⟨rfl, hb⟩
        have HB3 := Lib.hid (HB2.out.trans (hb.mono HB2.out.size))
        clear hb HB2
        go_wp2
        go_roundw
        case rel => exact ⟨i + 1, by omega, by go_num, rfl, Lib.hid (HB3.out.alloc HB3.out.size _)⟩
        case measure => simp [intOf]; omega
      · have HV := Lib.hid (fun W => zzVersion_yes hs hv W)
        have he := hv.he
        unfold four at HV
        clear hv
        have d1 : decide ((e : Int) ≥ 0) = true := decide_eq_true (by omega)
        have HS := Lib.hid (HSP.out e he)
        go_wp2_with fail
        refine (HV.out _).mono ?_
        rintro e3 w3 ⟨rfl, hb⟩
        have HB3 := Lib.hid (HB2.out.trans (hb.mono HB2.out.size))
        clear hb HB2
        go_upto_region 7 with fail
        have HB4 := Lib.hid (HB3.out.alloc HB3.out.size (.cells #[.string m0, .string m1, .string m2, .string m3] 71))
        generalize w3.alloc (.cells #[.string m0, .string m1, .string m2, .string m3] 71) = w4 at *
        clear HB3 HV
        have d2 : decide ((e : Int) > (e : Int)) = false := decide_eq_false (by omega)
        go_wp2_with fail
        refine (HS.out _).mono ?_
        rintro e5 w5 ⟨rfl, hb⟩
        have HB5 := Lib.hid (HB4.out.trans (hb.mono HB4.out.size))
        clear hb HB4
        clear HS
        go_wp2
        go_roundw
        case rel => exact ⟨i + 1, by omega, by go_num, rfl, HB5⟩
        case measure => simp [intOf]; omega
    · have d0 : decide ((i : Int) < (s.size : Int)) = false := decide_eq_false (by omega)
      go_wp2
      go_ret
      exact ⟨rfl, HB1.out⟩
end Go.Proofs.YtlhijjfbcgconaaGreatDoor.P


/- Constraints: the list of a text (NewConstraint). -/
set_option linter.unusedVariables false
set_option linter.unusedSimpArgs false
namespace Go.Proofs.YtlhijjfbcgconaaGreatDoor.P
open Go.RowKit Go.Proofs.YtlhijjfbcgconaaGreatDoorW.PrintWords Go.Proofs.YtlhijjfbcgconaaGreatDoorW.PrintLast Go.Proofs.YtlhijjfbcgconaaGreatDoorW.PrintMore

theorem bar_index (s : ByteArray) (hs : s.size ≤ 1000) (hn : ∀ j, j < s.size → bt s (j : Int) ≠ 124) : ∀ n x : Nat, x + n = s.size → Ev (fun k => semver_zzIndex.l0 k s ⟨#[124, 124]⟩ (x : Int)) (-1)
  | n, x, hx => by
    have h1 : ((⟨#[124, 124]⟩ : ByteArray).size : Int) = 2 := rfl
    refine Ev.step (fun k => by rw [semver_zzIndex.l0]) ?_
    rw [h1, w64_in (by omega) (by omega)]
    by_cases c : x + 2 ≤ s.size
    · refine Ev.pos (by omega) (Ev.pos (by omega) (Ev.pos (by omega) (Ev.neg ?_ ?_)))
      · intro h
        rw [show ((x : Int) + 2).toNat = x + 2 by omega, Int.toNat_natCast] at h
        have h2 : s.extract x (x + 2) = ⟨#[124, 124]⟩ := toList_inj h
        have h3 := bt_ext s x (x + 2) 0 (by omega)
        rw [h2] at h3
        exact hn x (by omega) (by rw [show x = x + 0 from rfl, ← h3]; rfl)
      · match n, hx with
        | 0, hx => omega
        | m + 1, hx =>
          rw [w64_in (by omega) (by omega), show (x : Int) + 1 = ((x + 1 : Nat) : Int) by omega]
          exact bar_index s hs hn m (x + 1) (by omega)
    · exact Ev.neg (by omega) (Ev.ok _)
theorem bar_split (s : ByteArray) (hs : s.size ≤ 1000) (hn : ∀ j, j < s.size → bt s (j : Int) ≠ 124) : Ev (fun k => semver_zzSplit.f k s ⟨#[124, 124]⟩) [s] := by
  unfold semver_zzSplit.f
  refine Ev.step (fun k => by rw [semver_zzSplit.l0]) ?_
  refine Ev.bind (by unfold semver_zzIndex.f; exact bar_index s hs hn s.size 0 (by omega)) ?_
  exact Ev.pos (by decide) (Ev.pos (by decide) (Ev.ok _))
end Go.Proofs.YtlhijjfbcgconaaGreatDoor.P


/- Constraints: NewConstraint of one constraint. -/
set_option linter.unusedVariables false
set_option linter.unusedSimpArgs false
namespace Go.Proofs.YtlhijjfbcgconaaGreatDoor.P
open Go.RowKit Go.Proofs.YtlhijjfbcgconaaGreatDoorW.PrintWords Go.Proofs.YtlhijjfbcgconaaGreatDoorW.PrintLast Go.Proofs.YtlhijjfbcgconaaGreatDoorW.PrintMore

theorem make1 {P : Program} (t e : TypeId) (z : Value) (by_ : Nat) (ht : P.underlying t = some (.slice e)) (hinfo : (P.info? e).map (fun i => (i.zero, i.size, i.bytes)) = some (some z, 1, by_)) (hz : z.cells = #[z]) (hb : by_ ≤ 100) (W : World) :
    (Instr.makeSlice t (.int .i64 1) (.int .i64 1)).run P W = .ok (.slice (some ⟨W.heap.size, 0, none⟩) 1 1) (W.alloc (.cells #[z] e)) := by
  obtain ⟨i, hi, hzz⟩ := Option.map_eq_some_iff.1 hinfo
  simp only [Prod.mk.injEq] at hzz
  obtain ⟨h1, h2, h3⟩ := hzz
  have hr := run_make (P := P) W t e i z ht hi h1 .i64 .i64 1 1 (by omega) (by omega) (by rw [h3]; omega) (by omega)
  have hm : madeCells #[z] (Int.toNat 1 * 1) = #[z] := by
    apply Array.ext (by simp [madeCells])
    intro i h1 h2
    have : i = 0 := by simp [madeCells] at h1; omega
    subst this
    simp [madeCells]
  rw [hr, h2, hz, hm]
  rfl
theorem mk_rows (W : World) : (Instr.makeSlice 56 (.int .i64 1) (.int .i64 1)).run Tryz.prog W = .ok (.slice (some ⟨W.heap.size, 0, none⟩) 1 1) (W.alloc (.cells #[.slice none 0 0] 59)) := make1 _ _ _ 24 Tryz.underlying56 (by kernel_rfl) rfl (by decide) W
theorem mk_bools (W : World) : (Instr.makeSlice 57 (.int .i64 1) (.int .i64 1)).run Tryz.prog W = .ok (.slice (some ⟨W.heap.size, 0, none⟩) 1 1) (W.alloc (.cells #[.bool false] 4)) := make1 _ _ _ 1 Tryz.underlying57 (by kernel_rfl) rfl (by decide) W
theorem mk_row (W : World) : (Instr.makeSlice 59 (.int .i64 1) (.int .i64 1)).run Tryz.prog W = .ok (.slice (some ⟨W.heap.size, 0, none⟩) 1 1) (W.alloc (.cells #[.pointer none] 60)) := make1 _ _ _ 8 Tryz.underlying59 (by kernel_rfl) rfl (by decide) W
set_option maxHeartbeats 3200000 in
set_option maxRecDepth 100000 in
theorem new_one {s : ByteArray} {orig op : ByteArray} {md dd pd : Bool} {n1 n2 n3 : Int} {pre mt og : ByteArray} {hp : Bool} (hs : s.size ≤ 500) (hn : ∀ j, j < s.size → ¬ isS (bt s (j : Int)) ∧ bt s (j : Int) ≠ 124) (hhp : hp = (pre.toList != []))
    (hv : ∀ W, Calls Tryz.prog 24 #[.string s] W fun e' w' => e' = .returned (.bool true) ∧ Below W.heap.size W w')
    (hf : ∀ W, Calls Tryz.prog 26 #[.string s] W fun e' w' => ∃ v, e' = .returned v ∧ Kd.R Kd.string 9 w' W.heap.size (fun _ => True) v [s] ∧ Below W.heap.size W w')
    (hparse : ∀ W, Calls Tryz.prog 27 #[.string s] W fun e' w' => ∃ g q : Nat, e' = .returned (.tuple #[.pointer (some ⟨g, 0, none⟩), .nilIface]) ∧ W.heap.size ≤ g ∧ W.heap.size ≤ q ∧ w'.heap[g]? = some (.cells (consCells q orig op md dd pd) 66 (0, 0)) ∧ w'.heap[q]? = some (.cells (verCells n1 n2 n3 pre mt og) 64 (0, 0)) ∧ Below W.heap.size W w') (w : World) :
    Calls Tryz.prog 19 #[.string s] w fun e' w' => ∃ gC gO gP gR g q : Nat, e' = .returned (.tuple #[.pointer (some ⟨gC, 0, none⟩), .nilIface]) ∧ w.heap.size ≤ gC ∧ w.heap.size ≤ gO ∧ w.heap.size ≤ gP ∧ w.heap.size ≤ gR ∧ w.heap.size ≤ g ∧ w.heap.size ≤ q ∧
      w'.heap[gC]? = some (.cells #[.slice (some ⟨gO, 0, none⟩) 1 1, .slice (some ⟨gP, 0, none⟩) 1 1, .bool false] 68 (0, 0)) ∧ w'.heap[gO]? = some (.cells #[.slice (some ⟨gR, 0, none⟩) 1 1] 59 (0, 0)) ∧ w'.heap[gP]? = some (.cells #[.bool hp] 4 (0, 0)) ∧ w'.heap[gR]? = some (.cells #[.pointer (some ⟨g, 0, none⟩)] 60 (0, 0)) ∧
      w'.heap[g]? = some (.cells (consCells q orig op md dd pd) 66 (0, 0)) ∧ w'.heap[q]? = some (.cells (verCells n1 n2 n3 pre mt og) 64 (0, 0)) ∧ Below w.heap.size w w' := by
  have HRW := Lib.hid (fun W => rewrite_id (s := s) (by omega) (fun j h => (hn j h).1) W)
  obtain ⟨K, hK⟩ := bar_split s (by omega) (fun j h => (hn j h).2)
  have HSP := Lib.hid (fun W => semver_zzSplit.calls K s ⟨#[124, 124]⟩ [s] W (hK K (Nat.le_refl _)))
  have HV := Lib.hid hv
  have HF := Lib.hid hf
  have HP := Lib.hid hparse
  have HHP := Lib.hid hhp
  have HB0 := Lib.hid (Below.refl w.heap.size w)
  have d0 : decide ((s.size : Int) > 512) = false := decide_eq_false (by omega)
  clear hn hv hf hparse hhp hK
  go_enter Tryz.func19, Tryz.ntmps19
  go_wp2_with fail
  refine (HRW.out _).mono ?_
  rintro e1 w1 ⟨rfl, hb⟩
  have HB1 := Lib.hid (HB0.out.trans (hb.mono HB0.out.size))
  clear hb HB0 HRW
  go_wp2_with fail
  refine (HSP.out _).mono ?_
  rintro e2 w2 ⟨v2, rfl, hr, hb⟩
  have HB2 := Lib.hid (HB1.out.trans (hb.mono HB1.out.size))
  obtain ⟨A2, c2, rfl, hle, hC⟩ := Kd.R_reads hr
  have HS2 := Lib.hid hC
  clear hb hr hle hC HB1
  clear HSP
  simp only [List.length_singleton] at HS2 ⊢
  obtain ⟨ad, rfl⟩ : ∃ ad, A2 = some ad := by
    obtain ⟨ad, h, _⟩ := Kd.at_string HS2.out 0 (by omega) (by decide)
    exact ⟨ad, h⟩
  have hm1 := mk_rows
  go_upto_region 9 with fail
  have HB3 := Lib.hid (HB2.out.alloc HB2.out.size (.cells #[.slice none 0 0] 59))
  have HO3 := Lib.hid (heap_alloc_new w2 (.cells #[.slice none 0 0] 59))
  have HS3 := Lib.hid (Kd.C_below HS2.out ((Below.refl w2.heap.size w2).alloc (Nat.le_refl _) (.cells #[.slice none 0 0] 59)))
  have gO := HB2.out.size
  clear HB2 HS2 hm1
  generalize w2.alloc (.cells #[.slice none 0 0] 59) = w3 at *
  generalize w2.heap.size = GO at *
  have hm2 := mk_bools
  go_upto_region 11 with fail
  have HB4 := Lib.hid (HB3.out.alloc HB3.out.size (.cells #[.bool false] 4))
  have HO4 := Lib.hid (blk_alloc HO3.out (.cells #[.bool false] 4))
  have HP4 := Lib.hid (heap_alloc_new w3 (.cells #[.bool false] 4))
  have HS4 := Lib.hid (Kd.C_below HS3.out ((Below.refl w3.heap.size w3).alloc (Nat.le_refl _) (.cells #[.bool false] 4)))
  have gP := HB3.out.size
  have hOP : GO ≠ w3.heap.size := by have := blk_lt HO3.out; omega
  clear HB3 HS3 HO3 hm2
  generalize w3.alloc (.cells #[.bool false] 4) = w4 at *
  generalize w3.heap.size = GP at *
  go_loopw [37] (fun x37 wr => Hid (Below w.heap.size w wr) ∧ ((x37 = .int .i64 0 ∧ Hid (wr.heap[GO]? = some (.cells #[.slice none 0 0] 59 (0, 0))) ∧ Hid (wr.heap[GP]? = some (.cells #[.bool false] 4 (0, 0))) ∧ Hid (Kd.string.C wr (some ad) 1 [s])) ∨ (x37 = .int .i64 1 ∧ ∃ gR g q : Nat, w.heap.size ≤ gR ∧ w.heap.size ≤ g ∧ w.heap.size ≤ q ∧ Hid (wr.heap[GO]? = some (.cells #[.slice (some ⟨gR, 0, none⟩) 1 1] 59 (0, 0))) ∧ Hid (wr.heap[GP]? = some (.cells #[.bool hp] 4 (0, 0))) ∧ Hid (wr.heap[gR]? = some (.cells #[.pointer (some ⟨g, 0, none⟩)] 60 (0, 0))) ∧ Hid (wr.heap[g]? = some (.cells (consCells q orig op md dd pd) 66 (0, 0))) ∧ Hid (wr.heap[q]? = some (.cells (verCells n1 n2 n3 pre mt og) 64 (0, 0)))))) (fun x37 _ => 1 - (intOf x37).toNat)
  case atStart => exact ⟨HB4, .inl ⟨rfl, HO4, HP4, HS4⟩⟩
  case round =>
    clear HB4 HO4 HP4 HS4
    obtain ⟨HB5, ⟨rfl, HO5, HP5, HS5⟩ | ⟨rfl, gR, g, q, hgR, hg, hq, HO5, HP5, HR5, HG5, HQ5⟩⟩ := hrel
    rotate_left
    · go_wp2
      go_ret2
      exact ⟨wr.heap.size, GO, GP, gR, g, q, rfl, HB5.out.size, gO, gP, hgR, hg, hq, heap_alloc_new _ _, blk_alloc HO5.out _, blk_alloc HP5.out _, blk_alloc HR5.out _, blk_alloc HG5.out _, blk_alloc HQ5.out _, HB5.out.alloc HB5.out.size _⟩
    · obtain ⟨ad', had, q0⟩ := Kd.at_string HS5.out 0 (by omega) (by decide)
      injection had with had
      subst had
      have q1 : wr.cell? ad = some (.string s) := by simpa [Addr.add, rdOf] using q0
      go_wp2_with fail
      refine (HV.out _).mono ?_
      rintro e6 w6 ⟨rfl, hb⟩
      have HB6 := Lib.hid (HB5.out.trans (hb.mono HB5.out.size))
      have HO6 := Lib.hid (blk_below HO5.out hb)
      have HP6 := Lib.hid (blk_below HP5.out hb)
      clear hb HB5 HO5 HP5 HS5 q0 q1 HV
      go_wp2_with fail
      refine (HF.out _).mono ?_
      rintro e7 w7 ⟨v7, rfl, hr, hb⟩
      have HB7 := Lib.hid (HB6.out.trans (hb.mono HB6.out.size))
      have HO7 := Lib.hid (blk_below HO6.out hb)
      have HP7 := Lib.hid (blk_below HP6.out hb)
      obtain ⟨A7, c7, rfl, hle, hC⟩ := Kd.R_reads hr
      have HS7 := Lib.hid hC
      clear hb hr hle hC HB6 HO6 HP6 HF
      simp only [List.length_singleton] at HS7 ⊢
      obtain ⟨ad7, rfl⟩ : ∃ ad, A7 = some ad := by
        obtain ⟨ad, h, _⟩ := Kd.at_string HS7.out 0 (by omega) (by decide)
        exact ⟨ad, h⟩
      have hnil : ∀ W : World, (binOp BinOp.eql 28 (Value.slice (some ad7) 1 c7) (Value.slice none 0 0)).run Tryz.prog W = .ok (.bool false) W := fun W => by kernel_rfl
      have hm3 := mk_row
      go_upto_region 20 with fail
      have HB8 := Lib.hid (HB7.out.alloc HB7.out.size (.cells #[.pointer none] 60))
      have HO8 := Lib.hid (blk_alloc HO7.out (.cells #[.pointer none] 60))
      have HP8 := Lib.hid (blk_alloc HP7.out (.cells #[.pointer none] 60))
      have HR8 := Lib.hid (heap_alloc_new w7 (.cells #[.pointer none] 60))
      have HS8 := Lib.hid (Kd.C_below HS7.out ((Below.refl w7.heap.size w7).alloc (Nat.le_refl _) (.cells #[.pointer none] 60)))
      have gR := HB7.out.size
      have hOR : GO < w7.heap.size := blk_lt HO7.out
      have hPR : GP < w7.heap.size := blk_lt HP7.out
      clear HB7 HO7 HP7 HS7 hm3 hnil
      generalize w7.alloc (.cells #[.pointer none] 60) = w8 at *
      generalize w7.heap.size = GR at *
      go_loopw [59] (fun x59 wq => Hid (Below w.heap.size w wq) ∧ Hid (wq.heap[GO]? = some (.cells #[.slice none 0 0] 59 (0, 0))) ∧ ((x59 = .int .i64 0 ∧ Hid (wq.heap[GP]? = some (.cells #[.bool false] 4 (0, 0))) ∧ Hid (wq.heap[GR]? = some (.cells #[.pointer none] 60 (0, 0))) ∧ Hid (Kd.string.C wq (some ad7) 1 [s])) ∨ (x59 = .int .i64 1 ∧ ∃ g q : Nat, GR < g ∧ GR < q ∧ Hid (wq.heap[GP]? = some (.cells #[.bool hp] 4 (0, 0))) ∧ Hid (wq.heap[GR]? = some (.cells #[.pointer (some ⟨g, 0, none⟩)] 60 (0, 0))) ∧ Hid (wq.heap[g]? = some (.cells (consCells q orig op md dd pd) 66 (0, 0))) ∧ Hid (wq.heap[q]? = some (.cells (verCells n1 n2 n3 pre mt og) 64 (0, 0)))))) (fun x59 _ => 1 - (intOf x59).toNat)
      case atStart => exact ⟨HB8, HO8, .inl ⟨rfl, HP8, HR8, HS8⟩⟩
      case round =>
        clear HB8 HO8 HP8 HR8 HS8
        obtain ⟨HB9, HO9, ⟨rfl, HP9, HR9, HS9⟩ | ⟨rfl, g, q, hg, hq, HP9, HR9, HG9, HQ9⟩⟩ := hrel
        rotate_left
        · have cz := blk_cell HO9.out 0
          simp only [List.getElem?_toArray, List.getElem?_cons_zero] at cz
          have fz := blk_frozen HO9.out 0
          go_wp2
          go_roundw
          case rel => exact ⟨Lib.hid (HB9.out.setCell (p := ⟨GO, 0, none⟩) gO _), .inr ⟨rfl, GR, g, q, gR, by omega, by omega, Lib.hid (blk_set HO9.out 0 _), Lib.hid (blk_far HP9.out (p := ⟨GO, 0, none⟩) (show GP ≠ GO by omega) _), Lib.hid (blk_far HR9.out (p := ⟨GO, 0, none⟩) (show GR ≠ GO by omega) _), Lib.hid (blk_far HG9.out (p := ⟨GO, 0, none⟩) (show g ≠ GO by omega) _), Lib.hid (blk_far HQ9.out (p := ⟨GO, 0, none⟩) (show q ≠ GO by omega) _)⟩⟩
          case measure => simp [intOf]
        · obtain ⟨ad', had, q0⟩ := Kd.at_string HS9.out 0 (by omega) (by decide)
          injection had with had
          subst had
          have q1 : wr.cell? ad7 = some (.string s) := by simpa [Addr.add, rdOf] using q0
          go_wp2_with fail
          refine (HP.out _).mono ?_
          rintro e10 w10 ⟨g, q, rfl, hg0, hq0, hkg, hkq, hb⟩
          have HB10 := Lib.hid (HB9.out.trans (hb.mono HB9.out.size))
          have HO10 := Lib.hid (blk_below HO9.out hb)
          have HP10 := Lib.hid (blk_below HP9.out hb)
          have HR10 := Lib.hid (blk_below HR9.out hb)
          have HG10 := Lib.hid hkg
          have HQ10 := Lib.hid hkq
          have hg : GR < g := by have := blk_lt HR9.out; omega
          have hq : GR < q := by have := blk_lt HR9.out; omega
          clear hb HB9 HO9 HP9 HR9 HS9 q0 q1 hkg hkq HP hg0 hq0
          have z0 := blk_cell HG10.out 0
          simp only [consCells, List.getElem?_toArray, List.getElem?_cons_zero] at z0
          have z3 := blk_cell HQ10.out 3
          simp only [verCells, List.getElem?_toArray, List.getElem?_cons_zero, List.getElem?_cons_succ] at z3
          have HHP2 := HHP.out
          cases hpc : hp with
          | true =>
            have hne : pre.toList.isEmpty = false := by
              rw [hpc] at HHP2
              cases hh : pre.toList with
              | nil => rw [hh] at HHP2; exact absurd HHP2 (by decide)
              | cons _ _ => rfl
            clear HHP2
            have cz := blk_cell HP10.out 0
            simp only [List.getElem?_toArray, List.getElem?_cons_zero] at cz
            have fz := blk_frozen HP10.out 0
            go_upto_region 27 with fail
            have HB11 := Lib.hid (HB10.out.setCell (p := ⟨GP, 0, none⟩) gP (.bool true))
            have HO11 := Lib.hid (blk_far HO10.out (p := ⟨GP, 0, none⟩) (show GO ≠ GP from hOP) (.bool true))
            have HP11 := Lib.hid (show (w10.setCell ⟨GP, 0, none⟩ (.bool true)).heap[GP]? = some (.cells #[.bool true] 4 (0, 0)) from blk_set HP10.out 0 (.bool true))
            have HR11 := Lib.hid (blk_far HR10.out (p := ⟨GP, 0, none⟩) (show GR ≠ GP by omega) (.bool true))
            have HG11 := Lib.hid (blk_far HG10.out (p := ⟨GP, 0, none⟩) (show g ≠ GP by omega) (.bool true))
            have HQ11 := Lib.hid (blk_far HQ10.out (p := ⟨GP, 0, none⟩) (show q ≠ GP by omega) (.bool true))
            clear cz fz HB10 HO10 HP10 HR10 HG10 HQ10 z0 z3
            generalize w10.setCell ⟨GP, 0, none⟩ (.bool true) = w11 at *
            have cz := blk_cell HR11.out 0
            simp only [List.getElem?_toArray, List.getElem?_cons_zero] at cz
            have fz := blk_frozen HR11.out 0
            go_wp2
            go_roundw
            case rel => exact ⟨Lib.hid (HB11.out.setCell (p := ⟨GR, 0, none⟩) gR _), Lib.hid (blk_far HO11.out (p := ⟨GR, 0, none⟩) (show GO ≠ GR by omega) _), .inr ⟨rfl, g, q, hg, hq, Lib.hid (by rw [hpc]; exact blk_far HP11.out (p := ⟨GR, 0, none⟩) (show GP ≠ GR by omega) _), Lib.hid (blk_set HR11.out 0 _), Lib.hid (blk_far HG11.out (p := ⟨GR, 0, none⟩) (show g ≠ GR by omega) _), Lib.hid (blk_far HQ11.out (p := ⟨GR, 0, none⟩) (show q ≠ GR by omega) _)⟩⟩
            case measure => simp [intOf]
          | false =>
            have hne : pre.toList.isEmpty = true := by
              rw [hpc] at HHP2
              cases hh : pre.toList with
              | nil => rfl
              | cons _ _ => rw [hh] at HHP2; exact absurd HHP2 (by simp)
            clear HHP2
            have cz := blk_cell HR10.out 0
            simp only [List.getElem?_toArray, List.getElem?_cons_zero] at cz
            have fz := blk_frozen HR10.out 0
            go_wp2
            go_roundw
            case rel => exact ⟨Lib.hid (HB10.out.setCell (p := ⟨GR, 0, none⟩) gR _), Lib.hid (blk_far HO10.out (p := ⟨GR, 0, none⟩) (show GO ≠ GR by omega) _), .inr ⟨rfl, g, q, hg, hq, Lib.hid (by rw [hpc]; exact blk_far HP10.out (p := ⟨GR, 0, none⟩) (show GP ≠ GR by omega) _), Lib.hid (blk_set HR10.out 0 _), Lib.hid (blk_far HG10.out (p := ⟨GR, 0, none⟩) (show g ≠ GR by omega) _), Lib.hid (blk_far HQ10.out (p := ⟨GR, 0, none⟩) (show q ≠ GR by omega) _)⟩⟩
            case measure => simp [intOf]
end Go.Proofs.YtlhijjfbcgconaaGreatDoor.P


/- Constraints: Check, and the doors. -/
set_option linter.unusedVariables false
set_option linter.unusedSimpArgs false
namespace Go.Proofs.YtlhijjfbcgconaaGreatDoor.P
open Go.RowKit Go.Proofs.YtlhijjfbcgconaaGreatDoorW.PrintWords Go.Proofs.YtlhijjfbcgconaaGreatDoorW.PrintLast Go.Proofs.YtlhijjfbcgconaaGreatDoorW.PrintMore

set_option maxHeartbeats 3200000 in
set_option maxRecDepth 100000 in
theorem check_one {gO gP gR g qv : Nat} {hp B : Bool} (w : World) (hO : w.heap[gO]? = some (.cells #[.slice (some ⟨gR, 0, none⟩) 1 1] 59 (0, 0))) (hP : w.heap[gP]? = some (.cells #[.bool hp] 4 (0, 0))) (hR : w.heap[gR]? = some (.cells #[.pointer (some ⟨g, 0, none⟩)] 60 (0, 0)))
    (hck : ∀ W, Below w.heap.size w W → Calls Tryz.prog 29 #[.pointer (some ⟨g, 0, none⟩), .pointer (some ⟨qv, 0, none⟩), .bool hp] W fun e w' => (∃ er, e = .returned (.tuple #[.bool B, er])) ∧ Below W.heap.size W w') :
    Calls Tryz.prog 21 #[.agg #[.slice (some ⟨gO, 0, none⟩) 1 1, .slice (some ⟨gP, 0, none⟩) 1 1, .bool false], .pointer (some ⟨qv, 0, none⟩)] w fun e w' => e = .returned (.bool B) ∧ Below w.heap.size w w' := by
  have HCK := Lib.hid hck
  have HBA := Lib.hid ((Below.refl w.heap.size w).alloc (Nat.le_refl _) (.cells #[.slice (some ⟨gO, 0, none⟩) 1 1, .slice (some ⟨gP, 0, none⟩) 1 1, .bool false] 68))
  have HIB := Lib.hid (heap_alloc_new w (.cells #[.slice (some ⟨gO, 0, none⟩) 1 1, .slice (some ⟨gP, 0, none⟩) 1 1, .bool false] 68))
  have HIO := Lib.hid (blk_alloc hO (.cells #[.slice (some ⟨gO, 0, none⟩) 1 1, .slice (some ⟨gP, 0, none⟩) 1 1, .bool false] 68))
  have HIP := Lib.hid (blk_alloc hP (.cells #[.slice (some ⟨gO, 0, none⟩) 1 1, .slice (some ⟨gP, 0, none⟩) 1 1, .bool false] 68))
  have HIR := Lib.hid (blk_alloc hR (.cells #[.slice (some ⟨gO, 0, none⟩) 1 1, .slice (some ⟨gP, 0, none⟩) 1 1, .bool false] 68))
  clear hck hO hP hR
  go_enter Tryz.func21, Tryz.ntmps21
  go_upto_region 1 with fail
  generalize w.alloc (.cells #[.slice (some ⟨gO, 0, none⟩) 1 1, .slice (some ⟨gP, 0, none⟩) 1 1, .bool false] 68) = w1 at *
  obtain ⟨GB, hGB⟩ : ∃ GB, GB = w.heap.size := ⟨_, rfl⟩
  have HGB := Lib.hid hGB
  rw [← hGB] at HIB ⊢
  clear hGB
  have y0 := blk_cell HIB.out 0
  have y1 := blk_cell HIB.out 1
  have y2 := blk_cell HIB.out 2
  simp only [List.getElem?_toArray, List.getElem?_cons_zero, List.getElem?_cons_succ] at y0 y1 y2
  have yo := blk_cell HIO.out 0
  have yp := blk_cell HIP.out 0
  have yr := blk_cell HIR.out 0
  simp only [List.getElem?_toArray, List.getElem?_cons_zero, List.getElem?_cons_succ] at yo yp yr
  go_upto_region 2 with fail
  clear y0 y1 y2 yo yp yr
  go_loopw [15] (fun x15 wr => Hid (Below w.heap.size w wr) ∧ Hid (wr.heap[GB]? = some (.cells #[.slice (some ⟨gO, 0, none⟩) 1 1, .slice (some ⟨gP, 0, none⟩) 1 1, .bool false] 68 (0, 0))) ∧ Hid (wr.heap[gO]? = some (.cells #[.slice (some ⟨gR, 0, none⟩) 1 1] 59 (0, 0))) ∧ Hid (wr.heap[gP]? = some (.cells #[.bool hp] 4 (0, 0))) ∧ Hid (wr.heap[gR]? = some (.cells #[.pointer (some ⟨g, 0, none⟩)] 60 (0, 0))) ∧ (x15 = .int .i64 0 ∨ (x15 = .int .i64 1 ∧ B = false))) (fun x15 _ => 1 - (intOf x15).toNat)
  case atStart => exact ⟨by rw [HGB.out] at *; exact HBA, HIB, HIO, HIP, HIR, .inl rfl⟩
  case round =>
    clear HBA HIB HIO HIP HIR
    obtain ⟨HBB, HJB, HJO, HJP, HJR, rfl | ⟨rfl, hB⟩⟩ := hrel
    rotate_left
    · go_wp2
      go_ret
      exact ⟨by rw [hB]; rfl, HBB.out⟩
    · skip
      have y0 := blk_cell HJB.out 0
      have y1 := blk_cell HJB.out 1
      have y2 := blk_cell HJB.out 2
      simp only [List.getElem?_toArray, List.getElem?_cons_zero, List.getElem?_cons_succ] at y0 y1 y2
      have yo := blk_cell HJO.out 0
      have yp := blk_cell HJP.out 0
      have yr := blk_cell HJR.out 0
      simp only [List.getElem?_toArray, List.getElem?_cons_zero, List.getElem?_cons_succ] at yo yp yr
      go_upto_region 6 with fail
      clear y0 y1 y2 yo yp yr
      go_loopw [7, 22] (fun x7 x22 wr => x7 = .bool true ∧ Hid (Below w.heap.size w wr) ∧ Hid (wr.heap[GB]? = some (.cells #[.slice (some ⟨gO, 0, none⟩) 1 1, .slice (some ⟨gP, 0, none⟩) 1 1, .bool false] 68 (0, 0))) ∧ Hid (wr.heap[gO]? = some (.cells #[.slice (some ⟨gR, 0, none⟩) 1 1] 59 (0, 0))) ∧ Hid (wr.heap[gP]? = some (.cells #[.bool hp] 4 (0, 0))) ∧ Hid (wr.heap[gR]? = some (.cells #[.pointer (some ⟨g, 0, none⟩)] 60 (0, 0))) ∧ (x22 = .int .i64 0 ∨ (x22 = .int .i64 1 ∧ B = true))) (fun _ x22 _ => 1 - (intOf x22).toNat)
      case atStart => exact ⟨rfl, HBB, HJB, HJO, HJP, HJR, .inl rfl⟩
      case round =>
        clear HBB HJB HJO HJP HJR
        obtain ⟨rfl, HBC, HKB, HKO, HKP, HKR, rfl | ⟨rfl, hB⟩⟩ := hrel
        rotate_left
        · go_wp2
          go_ret
          exact ⟨by rw [hB]; rfl, HBC.out⟩
        · skip
          have y0 := blk_cell HKB.out 0
          have y1 := blk_cell HKB.out 1
          have y2 := blk_cell HKB.out 2
          simp only [List.getElem?_toArray, List.getElem?_cons_zero, List.getElem?_cons_succ] at y0 y1 y2
          have yo := blk_cell HKO.out 0
          have yp := blk_cell HKP.out 0
          have yr := blk_cell HKR.out 0
          simp only [List.getElem?_toArray, List.getElem?_cons_zero, List.getElem?_cons_succ] at yo yp yr
          go_wp2_with fail
          refine (HCK.out _ HBC.out).mono ?_
          rintro e5 w5 ⟨⟨er, rfl⟩, hb⟩
          have HBD := Lib.hid (HBC.out.trans (hb.mono HBC.out.size))
          have HLB := Lib.hid (blk_below HKB.out hb)
          have HLO := Lib.hid (blk_below HKO.out hb)
          have HLP := Lib.hid (blk_below HKP.out hb)
          have HLR := Lib.hid (blk_below HKR.out hb)
          clear y0 y1 y2 yo yp yr
          clear hb HBC HKB HKO HKP HKR HCK
          cases hB : B with
          | true =>
            go_wp2
            go_roundw
            case rel => exact ⟨rfl, HBD, HLB, HLO, HLP, HLR, .inr ⟨rfl, hB⟩⟩
            case measure => simp [intOf]
          | false =>
            go_wp2
            go_roundw
            case rel => exact ⟨HBD, HLB, HLO, HLP, HLR, .inr ⟨rfl, hB⟩⟩
            case measure => simp [intOf]
end Go.Proofs.YtlhijjfbcgconaaGreatDoor.P


/- Constraints: the doors. -/
set_option linter.unusedVariables false
set_option linter.unusedSimpArgs false
namespace Go.Proofs.YtlhijjfbcgconaaGreatDoor.P
open Go.RowKit Go.Proofs.YtlhijjfbcgconaaGreatDoorW.PrintWords Go.Proofs.YtlhijjfbcgconaaGreatDoorW.PrintLast Go.Proofs.YtlhijjfbcgconaaGreatDoorW.PrintMore

set_option maxHeartbeats 3200000 in
set_option maxRecDepth 100000 in
theorem semCompare_one {s t : ByteArray} {orig op : ByteArray} {md dd pd : Bool} {n1 n2 n3 : Int} {pre mt og : ByteArray} {hp B : Bool} {x y z o : Nat} {a1 a2 a3 : Int} {pa ma : ByteArray}
    (hnew : ∀ w, Calls Tryz.prog 19 #[.string s] w fun e' w' => ∃ gC gO gP gR g q : Nat, e' = .returned (.tuple #[.pointer (some ⟨gC, 0, none⟩), .nilIface]) ∧ w.heap.size ≤ gC ∧ w.heap.size ≤ gO ∧ w.heap.size ≤ gP ∧ w.heap.size ≤ gR ∧ w.heap.size ≤ g ∧ w.heap.size ≤ q ∧
      w'.heap[gC]? = some (.cells #[.slice (some ⟨gO, 0, none⟩) 1 1, .slice (some ⟨gP, 0, none⟩) 1 1, .bool false] 68 (0, 0)) ∧ w'.heap[gO]? = some (.cells #[.slice (some ⟨gR, 0, none⟩) 1 1] 59 (0, 0)) ∧ w'.heap[gP]? = some (.cells #[.bool hp] 4 (0, 0)) ∧ w'.heap[gR]? = some (.cells #[.pointer (some ⟨g, 0, none⟩)] 60 (0, 0)) ∧
      w'.heap[g]? = some (.cells (consCells q orig op md dd pd) 66 (0, 0)) ∧ w'.heap[q]? = some (.cells (verCells n1 n2 n3 pre mt og) 64 (0, 0)) ∧ Below w.heap.size w w') (hver : Form t x y z o a1 a2 a3 pa ma)
    (w : World) (hck : ∀ W qv g q, Below w.heap.size w W → Mem W qv g q a1 a2 a3 n1 n2 n3 pa ma t pre mt og orig op md dd pd → qv ≠ q → Calls Tryz.prog 29 #[.pointer (some ⟨g, 0, none⟩), .pointer (some ⟨qv, 0, none⟩), .bool hp] W fun e w' => (∃ er, e = .returned (.tuple #[.bool B, er])) ∧ Below W.heap.size W w') :
    Calls Tryz.prog 18 #[.string s, .string t] w fun e w' => e = .returned (.tuple #[.bool B, .nilIface]) ∧ Below w.heap.size w w' := by
  have HN := Lib.hid (hnew w)
  have HV := Lib.hid (fun W => newVersion_call hver W)
  have HCK := Lib.hid hck
  clear hnew hver hck
  go_enter Tryz.func18, Tryz.ntmps18
  go_wp2_with fail
  refine HN.out.mono ?_
  rintro e1 w1 ⟨gC, gO, gP, gR, g, q, rfl, -, -, -, -, -, -, h1, h2, h3, h4, h5, h6, hb⟩
  have HB1 := Lib.hid hb
  have HM1 := Lib.hid (show _ ∧ _ ∧ _ ∧ _ ∧ _ ∧ _ from ⟨h1, h2, h3, h4, h5, h6⟩)
  clear h1 h2 h3 h4 h5 h6 hb HN
  go_wp2_with fail
  refine (HV.out _).mono ?_
  rintro e2 w2 ⟨qv, rfl, hq, hk, hb⟩
  obtain ⟨h1, h2, h3, h4, h5, h6⟩ := HM1.out
  have hne : qv ≠ q := by have := blk_lt h6; omega
  have HB2 := Lib.hid (HB1.out.trans (hb.mono HB1.out.size))
  have HMM := Lib.hid (show Mem w2 qv g q a1 a2 a3 n1 n2 n3 pa ma t pre mt og orig op md dd pd from ⟨hk, blk_below h6 hb, blk_below h5 hb⟩)
  have h1' := blk_below h1 hb
  have HCH := Lib.hid (check_one (B := B) w2 (blk_below h2 hb) (blk_below h3 hb) (blk_below h4 hb) (fun W hW => HCK.out W qv g q (HB2.out.trans (hW.mono HB2.out.size)) (HMM.out.below hW) hne))
  have y0 := blk_cell h1' 0
  have y1 := blk_cell h1' 1
  have y2 := blk_cell h1' 2
  simp only [List.getElem?_toArray, List.getElem?_cons_zero, List.getElem?_cons_succ] at y0 y1 y2
  clear h1 h2 h3 h4 h5 h6 hb hk hq HM1 HMM HCK HV HB1 h1'
  go_wp2_with fail
  refine HCH.out.mono ?_
  rintro e3 w3 ⟨rfl, hb⟩
  have HB3 := Lib.hid (HB2.out.trans (hb.mono HB2.out.size))
  clear hb HB2 HCH y0 y1 y2
  go_wp2
  go_ret2
  exact ⟨rfl, HB3.out⟩
set_option maxHeartbeats 3200000 in
set_option maxRecDepth 100000 in
theorem sprigCompare_of {s t : ByteArray} {B : Bool} (w : World) (h : Calls Tryz.prog 18 #[.string s, .string t] w fun e w' => e = .returned (.tuple #[.bool B, .nilIface]) ∧ Below w.heap.size w w') :
    Calls Tryz.prog 14 #[.string s, .string t] w fun e w' => e = .returned (.tuple #[.bool B, .nilIface]) ∧ Below w.heap.size w w' := by
  have H := Lib.hid h
  clear h
  go_enter Tryz.func14, Tryz.ntmps14
  go_wp2_with fail
  refine H.out.mono ?_
  rintro e w2 ⟨rfl, hb⟩
  have HB := Lib.hid hb
  clear hb H
  go_wp2
  go_ret2
  exact ⟨rfl, HB.out⟩
set_option maxHeartbeats 3200000 in
set_option maxRecDepth 100000 in
theorem implCompare_of {s t : ByteArray} {B : Bool} (w : World) (h : Calls Tryz.prog 14 #[.string s, .string t] w fun e w' => e = .returned (.tuple #[.bool B, .nilIface]) ∧ Below w.heap.size w w') :
    Calls Tryz.prog 7 #[.string s, .string t] w fun e w' => e = .returned (.tuple #[.bool B, .bool true]) ∧ Below w.heap.size w w' := by
  have H := Lib.hid h
  clear h
  go_enter Tryz.func7, Tryz.ntmps7
  go_wp2_with fail
  refine H.out.mono ?_
  rintro e w2 ⟨rfl, hb⟩
  have HB := Lib.hid hb
  clear hb H
  go_upto_region 2 with fail
  go_region
  (try go_wp2)
  go_ret2
  exact ⟨rfl, HB.out.drew⟩
end Go.Proofs.YtlhijjfbcgconaaGreatDoor.P

