/- Versions: semver.NewVersion of a text that has the form of a version. -/
import Derived.Test.YtlhijjfbcgconaaDoorZSv4
import Derived.Test.YtlhijjfbcgconaaDoorZSh
import Derived.StillTailTactics
set_option linter.unusedVariables false
set_option linter.unusedSimpArgs false
namespace Go.Proofs.YtlhijjfbcgconaaDoor.P
open Go.RowKit Go.Proofs.YtlhijjfbcgconaaDoorW.PrintWords Go.Proofs.YtlhijjfbcgconaaDoorW.PrintLast Go.Proofs.YtlhijjfbcgconaaDoorW.PrintMore

/-- The six cells of a version of the package. -/
def verCells (n1 n2 n3 : Int) (pre mt og : ByteArray) : Array Value := #[.int .u64 n1, .int .u64 n2, .int .u64 n3, .string pre, .string mt, .string og]
theorem trim_dot {s : ByteArray} {a b : Nat} (ha : bt s (a : Int) = 46) (h : a + 1 < b) (hb : b ≤ s.size) : (⟨(Lib.trimPrefix (s.extract a b).data.toList (⟨#[46]⟩ : ByteArray).data.toList).toArray⟩ : ByteArray) = s.extract (a + 1) b := by
  have h1 := bt_nat s a (by omega)
  rw [ha] at h1
  have h2 : s[a]'(by omega) = 46 := UInt8.toNat_inj.1 (by show _ = 46; omega)
  have h3 : (s.extract a b).data.toList = 46 :: (s.extract (a + 1) b).data.toList := by
    rw [extract_list, extract_list]
    have hl : a < s.data.toList.length := by rw [Array.length_toList]; show a < s.size; omega
    rw [List.drop_eq_getElem_cons hl, show b - a = (b - (a + 1)) + 1 by omega, List.take_succ_cons]
    congr 1
  apply ba_ext
  show Lib.trimPrefix _ [46] = _
  rw [h3]
  rfl
theorem parse_call (s : ByteArray) (x e : Nat) (h : NumAt s x e) (hs : s.size ≤ 100) (W : World) : Calls Tryd.prog 59 #[.string (s.extract x e), .int .i64 10, .int .i64 64] W fun r w' => r = .returned (.tuple #[.int .u64 (dv s x (e - x)), .nilIface]) ∧ Below W.heap.size W w' := by
  obtain ⟨h1, h2, h3⟩ := parse_at s x e h
  have hz := h.2.2.1
  refine (Tryd.strconv_ParseUint_10_at64_ok (s.extract x e) (by rw [ext_size _ _ _ hz]; omega) _ h1 W).mono ?_
  rintro r w' ⟨rfl, hw⟩
  refine ⟨by rw [Int.toNat_of_nonneg h2], ?_⟩
  rcases hw with rfl | rfl
  · exact Below.refl _ _
  · exact bytes_below (Below.refl _ _) (Nat.le_refl _) _ _
theorem trim_call (s : ByteArray) (a b : Nat) (ha : bt s (a : Int) = 46) (h : a + 1 < b) (hb : b ≤ s.size) (W : World) : Calls Tryd.prog 66 #[.string (s.extract a b), .string ⟨#[46]⟩] W fun r w' => r = .returned (.string (s.extract (a + 1) b)) ∧ w' = W := by
  have h1 := Tryd.strings_TrimPrefix (s.extract a b) ⟨#[46]⟩ W
  rw [trim_dot ha h hb] at h1
  exact h1
theorem Form.pfpre {s : ByteArray} {a b c m : Nat} {n1 n2 n3 : Int} {pre mt : ByteArray} (h : Form s a b c m n1 n2 n3 pre mt) : pre = ⟨#[]⟩ ∨ (0 < pre.size ∧ pre.size ≤ 100 ∧ PF pre true pre.size 0) := by
  obtain ⟨o1, o2, o3, o4, o5, o6⟩ := h.notD
  rcases h.hpre with ⟨_, h1⟩ | ⟨g1, g2, g3, g4⟩
  · exact .inl h1
  · have hz : pre.size = m - (c + 1) := by rw [g4]; exact ext_size _ _ _ o5
    have := g3.lt
    refine .inr ⟨by omega, by omega, ?_⟩
    have h2 := PF_cut (a := c + 1) (b := m) (Nat.le_refl _) g3 (Nat.le_refl _)
    rw [hz, g4]
    rw [Nat.sub_self] at h2
    exact h2
theorem Form.pfmeta {s : ByteArray} {a b c m : Nat} {n1 n2 n3 : Int} {pre mt : ByteArray} (h : Form s a b c m n1 n2 n3 pre mt) : mt = ⟨#[]⟩ ∨ (0 < mt.size ∧ mt.size ≤ 100 ∧ PF mt false mt.size 0) := by
  obtain ⟨o1, o2, o3, o4, o5, o6⟩ := h.notD
  rcases h.hmeta with ⟨_, h1⟩ | ⟨g1, g2, g3, g4⟩
  · exact .inl h1
  · have hz : mt.size = s.size - (m + 1) := by rw [g4]; exact ext_size _ _ _ (Nat.le_refl _)
    have := g3.lt
    refine .inr ⟨by omega, by omega, ?_⟩
    have h2 := PF_cut (a := m + 1) (b := s.size) (Nat.le_refl _) g3 (Nat.le_refl _)
    rw [hz, g4]
    rw [Nat.sub_self] at h2
    exact h2
set_option maxHeartbeats 1600000 in
set_option maxRecDepth 100000 in
theorem coerce_call {s : ByteArray} {a b c m : Nat} {n1 n2 n3 : Int} {pre mt : ByteArray} (h : Form s a b c m n1 n2 n3 pre mt) (w : World) :
    Calls Tryd.prog 51 #[.string s] w fun e w' => ∃ q : Nat, e = .returned (.tuple #[.pointer (some ⟨q, 0, none⟩), .nilIface]) ∧ w.heap.size ≤ q ∧ w'.heap[q]? = some (.cells (verCells n1 n2 n3 pre mt s) 69 (0, 0)) ∧ Below w.heap.size w w' := by
  obtain ⟨K, hK⟩ := loose_ev h
  have HLO := Lib.hid (semver_zzLoose.calls K s _ w (hK K (Nat.le_refl _)))
  have HPP := Lib.hid h.pfpre
  have HPM := Lib.hid h.pfmeta
  obtain ⟨o1, o2, o3, o4, o5, o6⟩ := h.notD
  have HPU0 := Lib.hid (fun W => parse_call s 0 a h.d1 h.size W)
  have HPU1 := Lib.hid (fun W => parse_call s (a + 1) b h.d2 h.size W)
  have HPU2 := Lib.hid (fun W => parse_call s (b + 1) c h.d3 h.size W)
  have HTR1 := Lib.hid (fun W => trim_call s a b h.p1 o1 h.d2.2.2.1 W)
  have HTR2 := Lib.hid (fun W => trim_call s b c h.p2 o2 h.d3.2.2.1 W)
  rw [Nat.sub_zero, ← h.v1] at HPU0
  rw [← h.v2] at HPU1
  rw [← h.v3] at HPU2
  have hne2 : (s.extract a b).toList.isEmpty = false := full_t (by rw [ext_size _ _ _ h.d2.2.2.1]; omega)
  have hne3 : (s.extract b c).toList.isEmpty = false := full_t (by rw [ext_size _ _ _ h.d3.2.2.1]; omega)
  clear hK h o1 o2 o3 o4 o5 o6
  generalize s.extract 0 a = D1 at *
  generalize s.extract a b = D2 at *
  generalize s.extract b c = D3 at *
  generalize s.extract (a + 1) b = E2 at *
  generalize s.extract (b + 1) c = E3 at *
  generalize s.extract c m = Z1 at *
  generalize s.extract m s.size = Z2 at *
  go_enter Tryd.func51, Tryd.ntmps51
  go_wp2_with fail
  refine HLO.out.mono ?_
  rintro e w1 ⟨v, rfl, hr, hb⟩
  obtain ⟨inner, ho⟩ := Kd.R_own hr
  obtain ⟨g, cc, rfl, hBg⟩ : ∃ g cc, v = .slice (some ⟨g, 0, none⟩) 9 cc ∧ w.heap.size ≤ g := by
    rcases ho.2 with ⟨_, h2⟩ | ⟨g, cap, cur, h1, hb, hg, _⟩
    · simp at h2
    · exact ⟨g, _, h1, hb⟩
  have HR := Lib.hid hr
  have HB := Lib.hid hb
  clear hr hb ho HLO
  have hnil : ∀ W : World, (binOp BinOp.eql 62 (Value.slice (some ⟨g, 0, none⟩) 9 cc) (Value.slice none 0 0)).run Tryd.prog W = .ok (.bool false) W := fun W => by kernel_rfl
  have HCELL := Lib.hid (fun (W : World) (hW : Below w1.heap.size w1 W) => show (W.cell? ⟨g, 1, none⟩ = some (.string D1) ∧ W.cell? ⟨g, 2, none⟩ = some (.string D2) ∧ W.cell? ⟨g, 3, none⟩ = some (.string D3)) ∧ W.cell? ⟨g, 5, none⟩ = some (.string pre) ∧ W.cell? ⟨g, 8, none⟩ = some (.string mt) from by
    have hR := Kd.R_below HR.out hW
    exact ⟨⟨(Kd.R_celln (⟨#[]⟩ : ByteArray) hR (1 : Int) (by decide) (by decide)).1, (Kd.R_celln (⟨#[]⟩ : ByteArray) hR (2 : Int) (by decide) (by decide)).1, (Kd.R_celln (⟨#[]⟩ : ByteArray) hR (3 : Int) (by decide) (by decide)).1⟩, (Kd.R_celln (⟨#[]⟩ : ByteArray) hR (5 : Int) (by decide) (by decide)).1, (Kd.R_celln (⟨#[]⟩ : ByteArray) hR (8 : Int) (by decide) (by decide)).1⟩)
  clear HR
  go_upto_region 4 with fail
  have HD := Lib.hid (below_drew1 (Below.refl w1.heap.size w1))
  obtain ⟨_, c5, c8⟩ := HCELL.out w1 (Below.refl _ _)
  have c5d : w1.drew.cell? ⟨g, 5, none⟩ = some (.string pre) := c5
  have c8d : w1.drew.cell? ⟨g, 8, none⟩ = some (.string mt) := c8
  go_still_tail 8, (by kernel_rfl)
  change wpList _ _ _ _ _ w1.drew
  generalize w1.drew = w2 at *
  clear c5 c8 c5d c8d hnil
  go_upto_region 6 with fail
  have HB3 := Lib.hid (HD.out.alloc HD.out.size (.cells #[.int .u64 0, .int .u64 0, .int .u64 0, .string pre, .string mt, .string s] 69))
  have HBK3 := Lib.hid (heap_alloc_new w2 (.cells #[.int .u64 0, .int .u64 0, .int .u64 0, .string pre, .string mt, .string s] 69))
  have hq : w1.heap.size ≤ w2.heap.size := HD.out.size
  have HQ := Lib.hid (show w.heap.size ≤ w2.heap.size from Nat.le_trans HB.out.size hq)
  clear HD
  generalize w2.alloc (.cells #[.int .u64 0, .int .u64 0, .int .u64 0, .string pre, .string mt, .string s] 69) = w3 at *
  generalize w2.heap.size = q at *
  obtain ⟨⟨c1, c2, c3⟩, c5, c8⟩ := HCELL.out w3 HB3.out
  clear c2 c3 c5 c8
  go_wp2_with fail
  refine (HPU0.out _).mono ?_
  rintro e w4 ⟨rfl, hb4⟩
  have HB4 := Lib.hid (HB3.out.trans (hb4.mono HB3.out.size))
  have HBK4 := Lib.hid (blk_below HBK3.out hb4)
  have cz : w4.cell? ⟨q, 0, none⟩ = some (.int .u64 0) := by rw [blk_cell HBK4.out 0]; rfl
  have fz := blk_frozen HBK4.out 0
  clear hb4 HPU0 HB3 HBK3 c1
  go_upto_region 7 with fail
  have HB5 := Lib.hid (HB4.out.setCell (p := ⟨q, 0, none⟩) hq (.int .u64 n1))
  have HBK5 := Lib.hid (show (w4.setCell ⟨q, 0, none⟩ (.int .u64 n1)).heap[q]? = some (.cells #[.int .u64 n1, .int .u64 0, .int .u64 0, .string pre, .string mt, .string s] 69 (0, 0)) from blk_set HBK4.out 0 (.int .u64 n1))
  clear HB4 HBK4 cz fz
  generalize w4.setCell ⟨q, 0, none⟩ (.int .u64 n1) = w5 at *
  obtain ⟨⟨c1, c2, c3⟩, c5, c8⟩ := HCELL.out w5 HB5.out
  clear c1 c3 c5 c8
  go_wp2_with fail
  refine (HTR1.out _).mono ?_
  rintro e _ ⟨rfl, rfl⟩
  clear HTR1
  go_wp2_with fail
  refine (HPU1.out _).mono ?_
  rintro e w6 ⟨rfl, hb4⟩
  have HB6 := Lib.hid (HB5.out.trans (hb4.mono HB5.out.size))
  have HBK6 := Lib.hid (blk_below HBK5.out hb4)
  have cz : w6.cell? ⟨q, 1, none⟩ = some (.int .u64 0) := by rw [blk_cell HBK6.out 1]; rfl
  have fz := blk_frozen HBK6.out 1
  clear hb4 HPU1 HB5 HBK5 c2
  go_upto_region 11 with fail
  have HB7 := Lib.hid (HB6.out.setCell (p := ⟨q, 1, none⟩) hq (.int .u64 n2))
  have HBK7 := Lib.hid (show (w6.setCell ⟨q, 1, none⟩ (.int .u64 n2)).heap[q]? = some (.cells #[.int .u64 n1, .int .u64 n2, .int .u64 0, .string pre, .string mt, .string s] 69 (0, 0)) from blk_set HBK6.out 1 (.int .u64 n2))
  clear HB6 HBK6 cz fz
  generalize w6.setCell ⟨q, 1, none⟩ (.int .u64 n2) = w7 at *
  obtain ⟨⟨c1, c2, c3⟩, c5, c8⟩ := HCELL.out w7 HB7.out
  clear c1 c2 c5 c8
  go_wp2_with fail
  refine (HTR2.out _).mono ?_
  rintro e _ ⟨rfl, rfl⟩
  clear HTR2
  go_wp2_with fail
  refine (HPU2.out _).mono ?_
  rintro e w8 ⟨rfl, hb4⟩
  have HB8 := Lib.hid (HB7.out.trans (hb4.mono HB7.out.size))
  have HBK8 := Lib.hid (blk_below HBK7.out hb4)
  have cz : w8.cell? ⟨q, 2, none⟩ = some (.int .u64 0) := by rw [blk_cell HBK8.out 2]; rfl
  have fz := blk_frozen HBK8.out 2
  clear hb4 HPU2 HB7 HBK7 c3
  go_upto_region 16 with fail
  have HB9 := Lib.hid (HB8.out.setCell (p := ⟨q, 2, none⟩) hq (.int .u64 n3))
  have HBK9 := Lib.hid (show (w8.setCell ⟨q, 2, none⟩ (.int .u64 n3)).heap[q]? = some (.cells #[.int .u64 n1, .int .u64 n2, .int .u64 n3, .string pre, .string mt, .string s] 69 (0, 0)) from blk_set HBK8.out 2 (.int .u64 n3))
  clear HB8 HBK8 cz fz
  generalize w8.setCell ⟨q, 2, none⟩ (.int .u64 n3) = w9 at *
  have x3 : w9.cell? ⟨q, 3, none⟩ = some (.string pre) := by rw [blk_cell HBK9.out 3]; rfl
  have x4 : w9.cell? ⟨q, 4, none⟩ = some (.string mt) := by rw [blk_cell HBK9.out 4]; rfl
  clear HCELL
  rcases HPP.out with pre0 | ⟨pre1, pre2, pre3⟩
  · have pree : pre.toList.isEmpty = true := by rw [pre0, ByteArray.toList_eq]; rfl
    clear pre0
    rcases HPM.out with mt0 | ⟨mt1, mt2, mt3⟩
    · have mte : mt.toList.isEmpty = true := by rw [mt0, ByteArray.toList_eq]; rfl
      clear mt0
      have HF := Lib.hid (HB.out.trans (HB9.out.mono HB.out.size))
      go_wp2
      go_ret2
      exact ⟨q, rfl, HQ.out, HBK9.out, HF.out⟩
    · have mte := full_t mt1
      have Hmt := Lib.hid (fun W => validMeta mt mt2 mt3 W)
      clear mt1 mt2 mt3
      go_wp2_with fail
      refine (Hmt.out _).mono ?_
      rintro e w10 ⟨rfl, hb10⟩
      have HB10 := Lib.hid (HB9.out.trans (hb10.mono HB9.out.size))
      have HBK10 := Lib.hid (blk_below HBK9.out hb10)
      have y3 : w10.cell? ⟨q, 3, none⟩ = some (.string pre) := by rw [blk_cell HBK10.out 3]; rfl
      have y4 : w10.cell? ⟨q, 4, none⟩ = some (.string mt) := by rw [blk_cell HBK10.out 4]; rfl
      clear hb10 Hmt
      have HF := Lib.hid (HB.out.trans (HB10.out.mono HB.out.size))
      go_wp2
      go_ret2
      exact ⟨q, rfl, HQ.out, HBK10.out, HF.out⟩
  · have pree := full_t pre1
    have Hpre := Lib.hid (fun W => validPre pre pre2 pre3 W)
    clear pre1 pre2 pre3
    go_wp2_with fail
    refine (Hpre.out _).mono ?_
    rintro e w10 ⟨rfl, hb10⟩
    have HB10 := Lib.hid (HB9.out.trans (hb10.mono HB9.out.size))
    have HBK10 := Lib.hid (blk_below HBK9.out hb10)
    have y3 : w10.cell? ⟨q, 3, none⟩ = some (.string pre) := by rw [blk_cell HBK10.out 3]; rfl
    have y4 : w10.cell? ⟨q, 4, none⟩ = some (.string mt) := by rw [blk_cell HBK10.out 4]; rfl
    clear hb10 Hpre
    rcases HPM.out with mt0 | ⟨mt1, mt2, mt3⟩
    · have mte : mt.toList.isEmpty = true := by rw [mt0, ByteArray.toList_eq]; rfl
      clear mt0
      have HF := Lib.hid (HB.out.trans (HB10.out.mono HB.out.size))
      go_wp2
      go_ret2
      exact ⟨q, rfl, HQ.out, HBK10.out, HF.out⟩
    · have mte := full_t mt1
      have Hmt := Lib.hid (fun W => validMeta mt mt2 mt3 W)
      clear mt1 mt2 mt3
      go_wp2_with fail
      refine (Hmt.out _).mono ?_
      rintro e w11 ⟨rfl, hb11⟩
      have HB11 := Lib.hid (HB10.out.trans (hb11.mono HB10.out.size))
      have HBK11 := Lib.hid (blk_below HBK10.out hb11)
      have y3 : w11.cell? ⟨q, 3, none⟩ = some (.string pre) := by rw [blk_cell HBK11.out 3]; rfl
      have y4 : w11.cell? ⟨q, 4, none⟩ = some (.string mt) := by rw [blk_cell HBK11.out 4]; rfl
      clear hb11 Hmt
      have HF := Lib.hid (HB.out.trans (HB11.out.mono HB.out.size))
      go_wp2
      go_ret2
      exact ⟨q, rfl, HQ.out, HBK11.out, HF.out⟩
set_option maxHeartbeats 1600000 in
set_option maxRecDepth 100000 in
theorem newVersion_call {s : ByteArray} {a b c m : Nat} {n1 n2 n3 : Int} {pre mt : ByteArray} (h : Form s a b c m n1 n2 n3 pre mt) (w : World) :
    Calls Tryd.prog 28 #[.string s] w fun e w' => ∃ q : Nat, e = .returned (.tuple #[.pointer (some ⟨q, 0, none⟩), .nilIface]) ∧ w.heap.size ≤ q ∧ w'.heap[q]? = some (.cells (verCells n1 n2 n3 pre mt s) 69 (0, 0)) ∧ Below w.heap.size w w' := by
  have HC := Lib.hid (coerce_call h w)
  have hs := h.size
  have d0 : decide (256 < (s.size : Int)) = false := decide_eq_false (by omega)
  have d1 : decide (256 < s.size) = false := decide_eq_false (by omega)
  clear h
  go_enter Tryd.func28, Tryd.ntmps28
  go_wp2_with fail
  refine HC.out.mono ?_
  rintro e w1 ⟨q, rfl, hq, hk, hb⟩
  have HK := Lib.hid hk
  have HB := Lib.hid hb
  have HQ := Lib.hid hq
  clear hk hb hq HC
  go_wp2
  go_ret2
  exact ⟨q, rfl, HQ.out, HK.out, HB.out⟩
end Go.Proofs.YtlhijjfbcgconaaDoor.P

