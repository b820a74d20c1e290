/- Constraints: one constraint (parseConstraint). -/
import Derived.Test.YtlhijjfbcgconaaGreatDoorZRgA
import Derived.Test.YtlhijjfbcgconaaGreatDoorZQR1
import Derived.Test.YtlhijjfbcgconaaGreatDoorZSh
import Derived.Test.YtlhijjfbcgconaaGreatDoorZSv
set_option linter.unusedVariables false
set_option linter.unusedSimpArgs false
namespace Go.Proofs.YtlhijjfbcgconaaGreatDoor.P
open Go.RowKit Go.Proofs.YtlhijjfbcgconaaGreatDoorW.PrintWords Go.Proofs.YtlhijjfbcgconaaGreatDoorW.PrintLast Go.Proofs.YtlhijjfbcgconaaGreatDoorW.PrintMore

def isXb (t : ByteArray) : Bool := t.toList == [120] || t.toList == [42] || t.toList == [88]
theorem isX_f (t : ByteArray) : semver_isX.f 1 t = some (isXb t) := by
  unfold semver_isX.f isXb
  by_cases h1 : t.toList = [120]
  · simp [h1, semver_isX.j0]
  · by_cases h2 : t.toList = [42]
    · simp [h2, semver_isX.j0]
    · by_cases h3 : t.toList = [88]
      · simp [h3, semver_isX.j0]
      · simp [h1, h2, h3, semver_isX.j0]
theorem isX_call (t : ByteArray) (w : World) : Calls Tryz.prog 35 #[.string t] w fun e w' => e = .returned (.bool (isXb t)) ∧ Below w.heap.size w w' := by
  refine (semver_isX.calls 1 t _ w (isX_f t)).mono ?_
  rintro e w' ⟨rfl, hd⟩
  exact ⟨rfl, hd.below⟩
def trimDot (t : ByteArray) : ByteArray := ⟨(Lib.trimPrefix t.data.toList [46]).toArray⟩
theorem trimDot_call (t : ByteArray) (w : World) : Calls Tryz.prog 36 #[.string t, .string ⟨#[46]⟩] w fun e w' => e = .returned (.string (trimDot t)) ∧ w' = w := Tryz.strings_TrimPrefix t ⟨#[46]⟩ w
/-- What is asked of the version: its text, and which numbers stand for any. -/
inductive Dirt (s : ByteArray) (a e : Nat) (m0 m1 m2 m3 : ByteArray) : ByteArray → Bool → Bool → Bool → Prop
  | any (h : isXb m0 = true) : Dirt s a e m0 m1 m2 m3 (⟨#[48, 46, 48, 46, 48]⟩ ++ m3) false true false
  | minor (h : isXb m0 = false) (hz : m0.size ≠ 0) (h1 : isXb (trimDot m1) = true ∨ m1 = ⟨#[]⟩) : Dirt s a e m0 m1 m2 m3 (m0 ++ ⟨#[46, 48, 46, 48]⟩ ++ m3) true true false
  | patch (h : isXb m0 = false) (hz : m0.size ≠ 0) (h1 : isXb (trimDot m1) = false) (hy : m1.size ≠ 0) (h2 : isXb (trimDot m2) = true ∨ m2 = ⟨#[]⟩) : Dirt s a e m0 m1 m2 m3 (m0 ++ m1 ++ ⟨#[46, 48]⟩ ++ m3) false true true
  | full (h : isXb m0 = false) (hz : m0.size ≠ 0) (h1 : isXb (trimDot m1) = false) (hy : m1.size ≠ 0) (h2 : isXb (trimDot m2) = false) (hx : m2.size ≠ 0) : Dirt s a e m0 m1 m2 m3 (s.extract a e) false false false
theorem sz2 {a b : ByteArray} (h : (a ++ b).size ≤ 100) : a.size ≤ 100 ∧ b.size ≤ 100 := by rw [ByteArray.size_append] at h; omega
theorem sz3 {a b c : ByteArray} (h : (a ++ b ++ c).size ≤ 100) : a.size + b.size ≤ 100 ∧ a.size + b.size + c.size ≤ 100 := by rw [ByteArray.size_append, ByteArray.size_append] at h; omega
theorem sz4 {a b c d : ByteArray} (h : (a ++ b ++ c ++ d).size ≤ 100) : a.size + b.size ≤ 100 ∧ a.size + b.size + c.size ≤ 100 ∧ a.size + b.size + c.size + d.size ≤ 100 := by rw [ByteArray.size_append, ByteArray.size_append, ByteArray.size_append] at h; omega
theorem ne_nil {t : ByteArray} (h : t.size ≠ 0) : (t.toList == []) = false := beq_eq_false_iff_ne.2 (fun q => h (by rw [show t = ⟨#[]⟩ from toList_inj (q.trans (by decide +kernel))]; rfl))
theorem row7 {W : World} {g : Nat} {t : TypeId} {x0 x1 x2 x3 x4 x5 x6 : Value} (h : W.heap[g]? = some (.cells #[x0, x1, x2, x3, x4, x5, x6] t (0, 0))) :
    W.cell? ⟨g, 0, none⟩ = some x0 ∧ W.cell? ⟨g, 1, none⟩ = some x1 ∧ W.cell? ⟨g, 2, none⟩ = some x2 ∧ W.cell? ⟨g, 3, none⟩ = some x3 ∧ W.cell? ⟨g, 4, none⟩ = some x4 ∧ W.cell? ⟨g, 5, none⟩ = some x5 ∧ W.cell? ⟨g, 6, none⟩ = some x6 :=
  ⟨blk_cell h 0, blk_cell h 1, blk_cell h 2, blk_cell h 3, blk_cell h 4, blk_cell h 5, blk_cell h 6⟩
def consCells (q : Nat) (orig op : ByteArray) (md d pd : Bool) : Array Value := #[.pointer (some ⟨q, 0, none⟩), .string orig, .string op, .bool md, .bool d, .bool pd]
set_option maxHeartbeats 3200000 in
set_option maxRecDepth 100000 in
theorem parseC_call {s : ByteArray} {i K a e : Nat} {m0 m1 m2 m3 : ByteArray} {i0 a1 b c d : Nat} {ver : ByteArray} {md dd pd : Bool} {x y z o : Nat} {n1 n2 n3 : Int} {pre mt : ByteArray}
    (hs : s.size ≤ 1000) (hi : Ev (fun k => semver_zzSpace.f k s 0) (i : Int)) (hA : At s i K a e) (hV : Ver s a e m0 m1 m2 m3 i0 a1 b c d) (he : Ev (fun k => semver_zzSpace.f k s (e : Int)) (s.size : Int)) (hD : Dirt s a e m0 m1 m2 m3 ver md dd pd) (hF : Form ver x y z o n1 n2 n3 pre mt) (w : World) :
    Calls Tryz.prog 27 #[.string s] w fun e' w' => ∃ g q : Nat, e' = .returned (.tuple #[.pointer (some ⟨g, 0, none⟩), .nilIface]) ∧ w.heap.size ≤ g ∧ w.heap.size ≤ q ∧ w'.heap[g]? = some (.cells (consCells q (s.extract a e) (opAt K) md dd pd) 66 (0, 0)) ∧ w'.heap[q]? = some (.cells (verCells n1 n2 n3 pre mt ver) 64 (0, 0)) ∧ Below w.heap.size w w' := by
  have hlo := hA.lo
  have halt := hA.hh.lt
  have HI := Lib.hid (fun W => space_call (i := 0) hi W)
  have HC := Lib.hid (fun W => at_call hs hA W)
  have HE := Lib.hid (fun W => space_call he W)
  have HV := Lib.hid (fun W => zzVersion_yes hs hV W)
  have HF := Lib.hid (fun W => newVersion_call hF W)
  have HD := Lib.hid hD
  have hsm := hF.size
  have d0 : decide ((s.size : Int) > 0) = true := decide_eq_true (by omega)
  have d1 : decide ((e : Int) < 0) = false := decide_eq_false (by omega)
  have HB0 := Lib.hid (Below.refl w.heap.size w)
  unfold four at HV
  generalize opAt K = op at *
  clear hi hA hV he hD hF
  go_enter Tryz.func27, Tryz.ntmps27
  go_wp2_with fail
  refine (HI.out _).mono ?_
  rintro e1 w1 ⟨rfl, hb⟩
  have HB1 := Lib.hid (HB0.out.trans (hb.mono HB0.out.size))
  clear hb HB0 HI
  go_wp2_with fail
  refine (HC.out _).mono ?_
  rintro e1 w2 ⟨rfl, hb⟩
  have HB2 := Lib.hid (HB1.out.trans (hb.mono HB1.out.size))
  clear hb HB1 HC
  go_wp2_with fail
  refine (HE.out _).mono ?_
  rintro e1 w3 ⟨rfl, hb⟩
  have HB3 := Lib.hid (HB2.out.trans (hb.mono HB2.out.size))
  clear hb HB2 HE
  go_wp2_with fail
  refine (HV.out _).mono ?_
  rintro e1 w4 ⟨rfl, hb⟩
  have HB4 := Lib.hid (HB3.out.trans (hb.mono HB3.out.size))
  clear hb HB3 HV
  go_upto_region 6 with fail
  have HB5 := Lib.hid (HB4.out.alloc HB4.out.size (.cells #[.string m0, .string m1, .string m2, .string m3] 71))
  have HK5 := Lib.hid (heap_alloc_new w4 (.cells #[.string m0, .string m1, .string m2, .string m3] 71))
  have g5 := HB4.out.size
  generalize w4.alloc (.cells #[.string m0, .string m1, .string m2, .string m3] 71) = w5 at *
  generalize w4.heap.size = G5 at *
  clear HB4
  have y0 := blk_cell HK5.out 0
  have y1 := blk_cell HK5.out 1
  have y2 := blk_cell HK5.out 2
  have y3 := blk_cell HK5.out 3
  simp only [List.getElem?_toArray, List.getElem?_cons_zero, List.getElem?_cons_succ] at y0 y1 y2 y3
  have i1 : (0 : Int) ≤ (a : Int) := by omega
  have i2 : (a : Int) ≤ (e : Int) := by omega
  have i3 : (e : Int) ≤ (s.size : Int) := by omega
  have k1 : ((a : Int)).toNat = a := Int.toNat_natCast a
  have k2 : ((e : Int)).toNat = e := Int.toNat_natCast e
  go_region
  have HB6 := Lib.hid ((HB5.out.alloc HB5.out.size (.cells #[.string s, .string op, .string (s.extract a e), .string m0, .string m1, .string m2, .string m3] 9)).drew)
  have HK6 := Lib.hid (blk_drew (heap_alloc_new w5 (.cells #[.string s, .string op, .string (s.extract a e), .string m0, .string m1, .string m2, .string m3] 9)))
  have g6 := HB5.out.size
  generalize (w5.alloc (.cells #[.string s, .string op, .string (s.extract a e), .string m0, .string m1, .string m2, .string m3] 9)).drew = w6 at *
  generalize w5.heap.size = G6 at *
  clear HB5 HK5 y0 y1 y2 y3 i1 i2 i3 k1 k2
  have ⟨z0, z1, z2, z3, z4, z5, z6⟩ := row7 HK6.out
  go_upto_region 7 with fail
  go_region
  have HB7 := Lib.hid ((HB6.out.alloc HB6.out.size (.cells #[.pointer none, .string (s.extract a e), .string op, .bool false, .bool false, .bool false] 66)).drew)
  have HK7 := Lib.hid (blk_drew (blk_alloc HK6.out (.cells #[.pointer none, .string (s.extract a e), .string op, .bool false, .bool false, .bool false] 66)))
  have HL7 := Lib.hid (blk_drew (heap_alloc_new w6 (.cells #[.pointer none, .string (s.extract a e), .string op, .bool false, .bool false, .bool false] 66)))
  have g7 := HB6.out.size
  generalize (w6.alloc (.cells #[.pointer none, .string (s.extract a e), .string op, .bool false, .bool false, .bool false] 66)).drew = w7 at *
  generalize w6.heap.size = G7 at *
  clear HB6 HK6 z0 z1 z2 z3 z4 z5 z6
  have ⟨z0, z1, z2, z3, z4, z5, z6⟩ := row7 HK7.out
  go_upto_region 12 with fail
  obtain ⟨bx, hbx, hb0⟩ : ∃ bx, isXb m0 = bx ∧ (bx = false → m0.size ≠ 0) := by
    refine ⟨_, rfl, fun q => ?_⟩
    cases HD.out with
    | any h => rw [h] at q; cases q
    | minor h hz _ => exact hz
    | patch h hz _ _ _ => exact hz
    | full h hz _ _ _ _ => exact hz
  go_cut [83] from 74 to 83 (fun v wc => v = .bool bx ∧ Hid (Below w.heap.size w wc) ∧ Hid (wc.heap[G6]? = some (.cells #[.string s, .string op, .string (s.extract a e), .string m0, .string m1, .string m2, .string m3] 9 (0, 0))) ∧ Hid (wc.heap[G7]? = some (.cells #[.pointer none, .string (s.extract a e), .string op, .bool false, .bool false, .bool false] 66 (0, 0))))
  case first =>
    go_wp2_with fail
    refine (isX_call m0 _).mono ?_
    rintro e1 w8 ⟨rfl, hb⟩
    clear z0 z1 z2 z3 z4 z5 z6
    have HB8 := Lib.hid (HB7.out.trans (hb.mono HB7.out.size))
    have HK8 := Lib.hid (blk_below HK7.out hb)
    have HL8 := Lib.hid (blk_below HL7.out hb)
    clear hb HB7 HK7 HL7
    have ⟨z0, z1, z2, z3, z4, z5, z6⟩ := row7 HK8.out
    rw [hbx]
    cases bx with
    | true =>
      go_wp2
      go_meet
      case rel => exact ⟨rfl, HB8, HK8, HL8⟩
    | false =>
      have hn := ne_nil (hb0 rfl)
      go_wp2
      go_meet
      case rel => exact ⟨rfl, HB8, HK8, HL8⟩
  case rest =>
  clear z0 z1 z2 z3 z4 z5 z6 HB7 HK7 HL7
  obtain ⟨rfl, HB7, HK7, HL7⟩ := hcut
  have ⟨z0, z1, z2, z3, z4, z5, z6⟩ := row7 HK7.out
  go_upto_if 83 with (fail)
  go_cut [11, 12, 13, 14] (fun v p q r wc => v = .string ver ∧ p = .bool md ∧ q = .bool pd ∧ r = .bool dd ∧ Hid (Below w.heap.size w wc) ∧ Hid (wc.heap[G6]? = some (.cells #[.string s, .string op, .string (s.extract a e), .string m0, .string m1, .string m2, .string m3] 9 (0, 0))) ∧ Hid (wc.heap[G7]? = some (.cells #[.pointer none, .string (s.extract a e), .string op, .bool false, .bool false, .bool false] 66 (0, 0))))
  case first =>
    have hD := HD.out
    clear HD HF
    cases hD with
    | any h =>
      obtain rfl : bx = true := by rw [← hbx]; exact h
      have hsz := sz2 hsm
      clear h hb0
      go_wp2
      go_meet
      case rel => exact ⟨rfl, rfl, rfl, rfl, HB7, HK7, HL7⟩
    | minor h hz h1 =>
      obtain rfl : bx = false := by rw [← hbx]; exact h
      have hsz := sz3 hsm
      clear h hz hb0
      go_upto_region 15 with fail
      go_cut [98] from 88 to 98 (fun v wc => v = .bool true ∧ Hid (Below w.heap.size w wc) ∧ Hid (wc.heap[G6]? = some (.cells #[.string s, .string op, .string (s.extract a e), .string m0, .string m1, .string m2, .string m3] 9 (0, 0))) ∧ Hid (wc.heap[G7]? = some (.cells #[.pointer none, .string (s.extract a e), .string op, .bool false, .bool false, .bool false] 66 (0, 0))))
      case first =>
        have HT := Lib.hid (fun W => trimDot_call m1 W)
        go_wp2_with fail
        refine (HT.out _).mono ?_
        rintro e1 w8 ⟨rfl, rfl⟩
        clear HT
        go_wp2_with fail
        refine (isX_call (trimDot m1) _).mono ?_
        rintro e1 w9 ⟨rfl, hb⟩
        clear z0 z1 z2 z3 z4 z5 z6
        have HB9 := Lib.hid (HB7.out.trans (hb.mono HB7.out.size))
        have HK9 := Lib.hid (blk_below HK7.out hb)
        have HL9 := Lib.hid (blk_below HL7.out hb)
        clear hb HB7 HK7 HL7
        have ⟨z0, z1, z2, z3, z4, z5, z6⟩ := row7 HK9.out
        rcases h1 with h1 | h1
        · rw [h1]
          clear h1
          go_wp2
          go_meet
          case rel => exact ⟨rfl, HB9, HK9, HL9⟩
        · have hn : (m1.toList == []) = true := by rw [h1]; decide +kernel
          clear h1
          cases hq : isXb (trimDot m1) with
          | true =>
            go_wp2
            go_meet
            case rel => exact ⟨rfl, HB9, HK9, HL9⟩
          | false =>
            go_wp2
            go_meet
            case rel => exact ⟨rfl, HB9, HK9, HL9⟩
      case rest =>
      clear z0 z1 z2 z3 z4 z5 z6
      clear HB7 HK7 HL7
      obtain ⟨rfl, HB7, HK7, HL7⟩ := hcut
      have ⟨z0, z1, z2, z3, z4, z5, z6⟩ := row7 HK7.out
      go_upto_region 18 with fail
      go_region
      (try go_wp2)
      go_meet
      case rel => exact ⟨rfl, rfl, rfl, rfl, Lib.hid HB7.out.drew, Lib.hid (blk_drew HK7.out), Lib.hid (blk_drew HL7.out)⟩
    | patch h hz h1 hy h2 =>
      obtain rfl : bx = false := by rw [← hbx]; exact h
      have hsz := sz4 hsm
      clear h hz hb0
      go_upto_region 15 with fail
      go_cut [98] from 88 to 98 (fun v wc => v = .bool false ∧ Hid (Below w.heap.size w wc) ∧ Hid (wc.heap[G6]? = some (.cells #[.string s, .string op, .string (s.extract a e), .string m0, .string m1, .string m2, .string m3] 9 (0, 0))) ∧ Hid (wc.heap[G7]? = some (.cells #[.pointer none, .string (s.extract a e), .string op, .bool false, .bool false, .bool false] 66 (0, 0))))
      case first =>
        have HT := Lib.hid (fun W => trimDot_call m1 W)
        go_wp2_with fail
        refine (HT.out _).mono ?_
        rintro e1 w8 ⟨rfl, rfl⟩
        clear HT
        go_wp2_with fail
        refine (isX_call (trimDot m1) _).mono ?_
        rintro e1 w9 ⟨rfl, hb⟩
        clear z0 z1 z2 z3 z4 z5 z6
        have HB9 := Lib.hid (HB7.out.trans (hb.mono HB7.out.size))
        have HK9 := Lib.hid (blk_below HK7.out hb)
        have HL9 := Lib.hid (blk_below HL7.out hb)
        clear hb HB7 HK7 HL7
        have ⟨z0, z1, z2, z3, z4, z5, z6⟩ := row7 HK9.out
        have hn := ne_nil hy
        rw [h1]
        clear h1
        go_wp2
        go_meet
        case rel => exact ⟨rfl, HB9, HK9, HL9⟩
      case rest =>
      clear z0 z1 z2 z3 z4 z5 z6
      clear HB7 HK7 HL7
      obtain ⟨rfl, HB7, HK7, HL7⟩ := hcut
      have ⟨z0, z1, z2, z3, z4, z5, z6⟩ := row7 HK7.out
      go_upto_region 19 with fail
      go_cut [117] from 107 to 117 (fun v wc => v = .bool true ∧ Hid (Below w.heap.size w wc) ∧ Hid (wc.heap[G6]? = some (.cells #[.string s, .string op, .string (s.extract a e), .string m0, .string m1, .string m2, .string m3] 9 (0, 0))) ∧ Hid (wc.heap[G7]? = some (.cells #[.pointer none, .string (s.extract a e), .string op, .bool false, .bool false, .bool false] 66 (0, 0))))
      case first =>
        have HT := Lib.hid (fun W => trimDot_call m2 W)
        go_wp2_with fail
        refine (HT.out _).mono ?_
        rintro e1 w8 ⟨rfl, rfl⟩
        clear HT
        go_wp2_with fail
        refine (isX_call (trimDot m2) _).mono ?_
        rintro e1 w9 ⟨rfl, hb⟩
        clear z0 z1 z2 z3 z4 z5 z6
        have HB9 := Lib.hid (HB7.out.trans (hb.mono HB7.out.size))
        have HK9 := Lib.hid (blk_below HK7.out hb)
        have HL9 := Lib.hid (blk_below HL7.out hb)
        clear hb HB7 HK7 HL7
        have ⟨z0, z1, z2, z3, z4, z5, z6⟩ := row7 HK9.out
        rcases h2 with h2 | h2
        · rw [h2]
          clear h2
          go_wp2
          go_meet
          case rel => exact ⟨rfl, HB9, HK9, HL9⟩
        · have hn : (m2.toList == []) = true := by rw [h2]; decide +kernel
          clear h2
          cases hq : isXb (trimDot m2) with
          | true =>
            go_wp2
            go_meet
            case rel => exact ⟨rfl, HB9, HK9, HL9⟩
          | false =>
            go_wp2
            go_meet
            case rel => exact ⟨rfl, HB9, HK9, HL9⟩
      case rest =>
      clear z0 z1 z2 z3 z4 z5 z6
      clear HB7 HK7 HL7
      obtain ⟨rfl, HB7, HK7, HL7⟩ := hcut
      have ⟨z0, z1, z2, z3, z4, z5, z6⟩ := row7 HK7.out
      go_upto_region 22 with fail
      go_region
      (try go_wp2)
      go_meet
      case rel => exact ⟨rfl, rfl, rfl, rfl, Lib.hid HB7.out.drew, Lib.hid (blk_drew HK7.out), Lib.hid (blk_drew HL7.out)⟩
    | full h hz h1 hy h2 hx =>
      obtain rfl : bx = false := by rw [← hbx]; exact h
      clear h hz hb0
      go_upto_region 15 with fail
      go_cut [98] from 88 to 98 (fun v wc => v = .bool false ∧ Hid (Below w.heap.size w wc) ∧ Hid (wc.heap[G6]? = some (.cells #[.string s, .string op, .string (s.extract a e), .string m0, .string m1, .string m2, .string m3] 9 (0, 0))) ∧ Hid (wc.heap[G7]? = some (.cells #[.pointer none, .string (s.extract a e), .string op, .bool false, .bool false, .bool false] 66 (0, 0))))
      case first =>
        have HT := Lib.hid (fun W => trimDot_call m1 W)
        go_wp2_with fail
        refine (HT.out _).mono ?_
        rintro e1 w8 ⟨rfl, rfl⟩
        clear HT
        go_wp2_with fail
        refine (isX_call (trimDot m1) _).mono ?_
        rintro e1 w9 ⟨rfl, hb⟩
        clear z0 z1 z2 z3 z4 z5 z6
        have HB9 := Lib.hid (HB7.out.trans (hb.mono HB7.out.size))
        have HK9 := Lib.hid (blk_below HK7.out hb)
        have HL9 := Lib.hid (blk_below HL7.out hb)
        clear hb HB7 HK7 HL7
        have ⟨z0, z1, z2, z3, z4, z5, z6⟩ := row7 HK9.out
        have hn := ne_nil hy
        rw [h1]
        clear h1
        go_wp2
        go_meet
        case rel => exact ⟨rfl, HB9, HK9, HL9⟩
      case rest =>
      clear z0 z1 z2 z3 z4 z5 z6
      clear HB7 HK7 HL7
      obtain ⟨rfl, HB7, HK7, HL7⟩ := hcut
      have ⟨z0, z1, z2, z3, z4, z5, z6⟩ := row7 HK7.out
      go_upto_region 19 with fail
      go_cut [117] from 107 to 117 (fun v wc => v = .bool false ∧ Hid (Below w.heap.size w wc) ∧ Hid (wc.heap[G6]? = some (.cells #[.string s, .string op, .string (s.extract a e), .string m0, .string m1, .string m2, .string m3] 9 (0, 0))) ∧ Hid (wc.heap[G7]? = some (.cells #[.pointer none, .string (s.extract a e), .string op, .bool false, .bool false, .bool false] 66 (0, 0))))
      case first =>
        have HT := Lib.hid (fun W => trimDot_call m2 W)
        go_wp2_with fail
        refine (HT.out _).mono ?_
        rintro e1 w8 ⟨rfl, rfl⟩
        clear HT
        go_wp2_with fail
        refine (isX_call (trimDot m2) _).mono ?_
        rintro e1 w9 ⟨rfl, hb⟩
        clear z0 z1 z2 z3 z4 z5 z6
        have HB9 := Lib.hid (HB7.out.trans (hb.mono HB7.out.size))
        have HK9 := Lib.hid (blk_below HK7.out hb)
        have HL9 := Lib.hid (blk_below HL7.out hb)
        clear hb HB7 HK7 HL7
        have ⟨z0, z1, z2, z3, z4, z5, z6⟩ := row7 HK9.out
        have hn := ne_nil hx
        rw [h2]
        clear h2
        go_wp2
        go_meet
        case rel => exact ⟨rfl, HB9, HK9, HL9⟩
      case rest =>
      clear z0 z1 z2 z3 z4 z5 z6
      clear HB7 HK7 HL7
      obtain ⟨rfl, HB7, HK7, HL7⟩ := hcut
      have ⟨z0, z1, z2, z3, z4, z5, z6⟩ := row7 HK7.out
      go_wp2
      go_meet
      case rel => exact ⟨rfl, rfl, rfl, rfl, HB7, HK7, HL7⟩
  case rest =>
  clear z0 z1 z2 z3 z4 z5 z6 HB7 HK7 HL7 hb0 hbx HD
  obtain ⟨rfl, rfl, rfl, rfl, HB7, HK7, HL7⟩ := hcut
  go_wp2_with fail
  refine (HF.out _).mono ?_
  rintro e1 w9 ⟨q, rfl, hq, hk, hb⟩
  have hq2 : w.heap.size ≤ q := Nat.le_trans HB7.out.size hq
  have hne : q ≠ G7 := by have := blk_lt HL7.out; omega
  have HB9 := Lib.hid (HB7.out.trans (hb.mono HB7.out.size))
  have HL9 := Lib.hid (blk_below HL7.out hb)
  have HQ9 := Lib.hid hk
  clear hk hb hq HB7 HL7 HK7 HF
  go_upto_region 26 with fail
  have cz : w9.cell? ⟨G7, 0, none⟩ = some (.pointer none) := by rw [blk_cell HL9.out 0]; rfl
  have fz := blk_frozen HL9.out 0
  go_upto_region 27 with fail
  have HB10 := Lib.hid (HB9.out.setCell (p := ⟨G7, 0, none⟩) g7 (.pointer (some ⟨q, 0, none⟩)))
  have HL10 := Lib.hid (show (w9.setCell ⟨G7, 0, none⟩ (.pointer (some ⟨q, 0, none⟩))).heap[G7]? = some (.cells #[.pointer (some ⟨q, 0, none⟩), .string (s.extract a e), .string op, .bool false, .bool false, .bool false] 66 (0, 0)) from blk_set HL9.out 0 (.pointer (some ⟨q, 0, none⟩)))
  have HQ10 := Lib.hid (blk_far HQ9.out (p := ⟨G7, 0, none⟩) hne (.pointer (some ⟨q, 0, none⟩)))
  clear cz fz HB9 HL9 HQ9
  generalize w9.setCell ⟨G7, 0, none⟩ (.pointer (some ⟨q, 0, none⟩)) = w10 at *
  have cz : w10.cell? ⟨G7, 3, none⟩ = some (.bool false) := by rw [blk_cell HL10.out 3]; rfl
  have fz := blk_frozen HL10.out 3
  go_upto_region 28 with fail
  have HB11 := Lib.hid (HB10.out.setCell (p := ⟨G7, 3, none⟩) g7 (.bool md))
  have HL11 := Lib.hid (show (w10.setCell ⟨G7, 3, none⟩ (.bool md)).heap[G7]? = some (.cells #[.pointer (some ⟨q, 0, none⟩), .string (s.extract a e), .string op, .bool md, .bool false, .bool false] 66 (0, 0)) from blk_set HL10.out 3 (.bool md))
  have HQ11 := Lib.hid (blk_far HQ10.out (p := ⟨G7, 3, none⟩) hne (.bool md))
  clear cz fz HB10 HL10 HQ10
  generalize w10.setCell ⟨G7, 3, none⟩ (.bool md) = w11 at *
  have cz : w11.cell? ⟨G7, 5, none⟩ = some (.bool false) := by rw [blk_cell HL11.out 5]; rfl
  have fz := blk_frozen HL11.out 5
  go_upto_region 29 with fail
  have HB12 := Lib.hid (HB11.out.setCell (p := ⟨G7, 5, none⟩) g7 (.bool pd))
  have HL12 := Lib.hid (show (w11.setCell ⟨G7, 5, none⟩ (.bool pd)).heap[G7]? = some (.cells #[.pointer (some ⟨q, 0, none⟩), .string (s.extract a e), .string op, .bool md, .bool false, .bool pd] 66 (0, 0)) from blk_set HL11.out 5 (.bool pd))
  have HQ12 := Lib.hid (blk_far HQ11.out (p := ⟨G7, 5, none⟩) hne (.bool pd))
  clear cz fz HB11 HL11 HQ11
  generalize w11.setCell ⟨G7, 5, none⟩ (.bool pd) = w12 at *
  have cz : w12.cell? ⟨G7, 4, none⟩ = some (.bool false) := by rw [blk_cell HL12.out 4]; rfl
  have fz := blk_frozen HL12.out 4
  go_upto_region 30 with fail
  have HB13 := Lib.hid (HB12.out.setCell (p := ⟨G7, 4, none⟩) g7 (.bool dd))
  have HL13 := Lib.hid (show (w12.setCell ⟨G7, 4, none⟩ (.bool dd)).heap[G7]? = some (.cells #[.pointer (some ⟨q, 0, none⟩), .string (s.extract a e), .string op, .bool md, .bool dd, .bool pd] 66 (0, 0)) from blk_set HL12.out 4 (.bool dd))
  have HQ13 := Lib.hid (blk_far HQ12.out (p := ⟨G7, 4, none⟩) hne (.bool dd))
  clear cz fz HB12 HL12 HQ12
  generalize w12.setCell ⟨G7, 4, none⟩ (.bool dd) = w13 at *
  go_wp2
  go_ret2
  exact ⟨G7, q, rfl, g7, hq2, HL13.out, HQ13.out, HB13.out⟩
end Go.Proofs.YtlhijjfbcgconaaGreatDoor.P

