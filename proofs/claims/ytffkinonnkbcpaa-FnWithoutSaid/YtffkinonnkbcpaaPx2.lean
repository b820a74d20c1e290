-- WRITTEN by xprint.py (a program of this session, over the kit's print) out of the translation. Not trusted: Lean checks it.
import Derived.Test.YtffkinonnkbcpaaPx0
import Derived.Test.YtffkinonnkbcpaaPx1
namespace Go.Proofs.Ytffkinonnkbcpaa.P
open Go.RowKit Go.Proofs.YtffkinonnkbcpaaW.PrintWords Go.Proofs.YtffkinonnkbcpaaW.PrintLast Go.Proofs.YtffkinonnkbcpaaW.PrintMore
attribute [local go_sem] max2_int min2_int max_two min_two max_three min_three max_four min_four run_store_float   -- for this text's walks alone
set_option linter.unusedVariables false
set_option linter.unusedSimpArgs false

/-! ### spec_right: function 17 -/
mutual
def spec_right.j2 : Nat → Int → Int → Int → Nat → ByteArray → List ByteArray → List (S31) → Int → Int → Nat → ByteArray → Int → Int → Nat → ByteArray → Option (Bool)
 | 0, _, _, _, _, _, _, _, _, _, _, _, _, _, _, _ => none
 | k + 1, x1, x107000, x107001, x107002, x107003, x107004, x107005, x108000, x108001, x108002, x108003, x109000, x109001, x109002, x109003 => (spec_Bare.f x108000 x108001 x108002 x108003 ([] : List ByteArray) ([] : List (S31)) x109000 x109001 x109002 x109003 ([] : List ByteArray) ([] : List (S31))).bind fun t109 => (if t109 = true then (if (x107003.size : Int) > 300 then (spec_right.j3 k x1 true x107000 x107001 x107002 x107003 x107004 x107005) else (if FloatKind.f64.format.sub x107002 x107002 = none then (spec_right.j3 k x1 true x107000 x107001 x107002 x107003 x107004 x107005) else (if x107000 = 6 then (if (x107005.length : Int) > 300 then (spec_right.j3 k x1 true x107000 x107001 x107002 x107003 x107004 x107005) else (spec_right.j3 k x1 (x1 == 0) x107000 x107001 x107002 x107003 x107004 x107005)) else (if x107000 = 7 then (if (x107005.length : Int) > 300 then (spec_right.j3 k x1 true x107000 x107001 x107002 x107003 x107004 x107005) else (spec_right.j3 k x1 (x1 == 0) x107000 x107001 x107002 x107003 x107004 x107005)) else (if (x107005.length : Int) > 0 then (spec_right.j3 k x1 true x107000 x107001 x107002 x107003 x107004 x107005) else (if (x107005.length : Int) > 300 then (spec_right.j3 k x1 true x107000 x107001 x107002 x107003 x107004 x107005) else (spec_right.j3 k x1 (x1 == 0) x107000 x107001 x107002 x107003 x107004 x107005))))))) else (spec_right.j3 k x1 true x107000 x107001 x107002 x107003 x107004 x107005))
def spec_right.j3 : Nat → Int → Bool → Int → Int → Nat → ByteArray → List ByteArray → List (S31) → Option (Bool)
 | 0, _, _, _, _, _, _, _, _ => none
 | k + 1, x1, x85, x107000, x107001, x107002, x107003, x107004, x107005 => if x85 = true then (some false) else (if x107000 = 7 then (spec_right.j4 k x1 ((x107004.length : Int) != (x107005.length : Int)) x107000 x107001 x107002 x107003 x107004 x107005) else (if (x107004.length : Int) > 0 then (spec_right.j4 k x1 true x107000 x107001 x107002 x107003 x107004 x107005) else (spec_right.j4 k x1 false x107000 x107001 x107002 x107003 x107004 x107005)))
def spec_right.j4 : Nat → Int → Bool → Int → Int → Nat → ByteArray → List ByteArray → List (S31) → Option (Bool)
 | 0, _, _, _, _, _, _, _, _ => none
 | k + 1, x1, x108, x107000, x107001, x107002, x107003, x107004, x107005 => if x108 = true then (some false) else (spec_right.l0 k x1 0 x107000 x107001 x107002 x107003 x107004 x107005)
def spec_right.l0 : Nat → Int → Int → Int → Int → Nat → ByteArray → List ByteArray → List (S31) → Option (Bool)
 | 0, _, _, _, _, _, _, _, _ => none
 | k + 1, x1, x7, x107000, x107001, x107002, x107003, x107004, x107005 => if x7 < (x107005.length : Int) then (if 0 ≤ x7 then ((spec_right.f k ((rd_T31 x107005 x7).f0) ((rd_T31 x107005 x7).f1) ((rd_T31 x107005 x7).f2) ((rd_T31 x107005 x7).f3) ((rd_T31 x107005 x7).f4) ((rd_T31 x107005 x7).f5) (wrap64 (x1 - 1))).bind fun t111 => (if t111 = true then (if x107000 = 7 then (if x7 < (x107004.length : Int) then (if ((rdOf ByteArray.empty x107004 x7).size : Int) > 300 then (spec_right.j6 k x1 x7 true x107000 x107001 x107002 x107003 x107004 x107005) else (if x7 > 0 then (if 0 ≤ (wrap64 (x7 - 1)) then (if (wrap64 (x7 - 1)) < (x107004.length : Int) then (spec_right.j6 k x1 x7 (!(Op.bytesLess ((rdOf ByteArray.empty x107004 (wrap64 (x7 - 1))).toList) ((rdOf ByteArray.empty x107004 x7).toList))) x107000 x107001 x107002 x107003 x107004 x107005) else (none)) else (none)) else (spec_right.j6 k x1 x7 false x107000 x107001 x107002 x107003 x107004 x107005))) else (none)) else (spec_right.j6 k x1 x7 false x107000 x107001 x107002 x107003 x107004 x107005)) else (spec_right.j6 k x1 x7 true x107000 x107001 x107002 x107003 x107004 x107005))) else (none)) else (some true)
def spec_right.j6 : Nat → Int → Int → Bool → Int → Int → Nat → ByteArray → List ByteArray → List (S31) → Option (Bool)
 | 0, _, _, _, _, _, _, _, _, _ => none
 | k + 1, x1, x7, x156, x107000, x107001, x107002, x107003, x107004, x107005 => if x156 = true then (some false) else (spec_right.l0 k x1 (wrap64 (x7 + 1)) x107000 x107001 x107002 x107003 x107004 x107005)
def spec_right.j0 : Nat → Int → Int → Bool → Int → Int → Nat → ByteArray → List ByteArray → List (S31) → Int → Int → Nat → ByteArray → Int → Int → Nat → ByteArray → Option (Bool)
 | 0, _, _, _, _, _, _, _, _, _, _, _, _, _, _, _, _, _ => none
 | k + 1, x1, x15, x16, x107000, x107001, x107002, x107003, x107004, x107005, x108000, x108001, x108002, x108003, x109000, x109001, x109002, x109003 => if x16 = true then (spec_right.j2 k x1 x107000 x107001 x107002 x107003 x107004 x107005 x108000 x108001 x108002 x108003 x109000 x109001 x109002 x109003) else (if x15 = 1 then (spec_right.j2 k x1 x107000 x107001 x107002 x107003 x107004 x107005 x108000 x108001 x108002 x108003 x109000 (Go.bits .and .i64 x107001 1) x109002 x109003) else (if x15 = 2 then (spec_right.j1 k x1 x15 (x15 == 2) x107000 x107001 x107002 x107003 x107004 x107005 x108000 x108001 x108002 x108003 x109000 x109001 x109002 x109003) else (spec_right.j1 k x1 x15 (x15 == 3) x107000 x107001 x107002 x107003 x107004 x107005 x108000 x108001 x108002 x108003 x109000 x109001 x109002 x109003)))
def spec_right.j1 : Nat → Int → Int → Bool → Int → Int → Nat → ByteArray → List ByteArray → List (S31) → Int → Int → Nat → ByteArray → Int → Int → Nat → ByteArray → Option (Bool)
 | 0, _, _, _, _, _, _, _, _, _, _, _, _, _, _, _, _, _ => none
 | k + 1, x1, x15, x26, x107000, x107001, x107002, x107003, x107004, x107005, x108000, x108001, x108002, x108003, x109000, x109001, x109002, x109003 => if x26 = true then (spec_right.j2 k x1 x107000 x107001 x107002 x107003 x107004 x107005 x108000 x108001 x108002 x108003 x109000 x107001 x109002 x109003) else (if x15 = 4 then (spec_right.j2 k x1 x107000 x107001 x107002 x107003 x107004 x107005 x108000 x108001 x108002 x108003 x109000 x109001 x107002 x109003) else (if x15 = 5 then (spec_right.j2 k x1 x107000 x107001 x107002 x107003 x107004 x107005 x108000 x108001 x108002 x108003 x109000 x109001 x109002 x107003) else (some false)))
def spec_right.f : Nat → Int → Int → Nat → ByteArray → List ByteArray → List (S31) → Int → Option (Bool)
 | 0, _, _, _, _, _, _, _ => none
 | k + 1, a0_0, a0_1, a0_2, a0_3, l0_4, l0_5, a1 => if a0_0 = 0 then (spec_right.j0 k a1 a0_0 (a0_0 == 0) a0_0 a0_1 a0_2 a0_3 l0_4 l0_5 a0_0 a0_1 a0_2 a0_3 a0_0 0 0 (⟨#[]⟩ : ByteArray)) else (if a0_0 = 6 then (spec_right.j0 k a1 a0_0 (a0_0 == 6) a0_0 a0_1 a0_2 a0_3 l0_4 l0_5 a0_0 a0_1 a0_2 a0_3 a0_0 0 0 (⟨#[]⟩ : ByteArray)) else (spec_right.j0 k a1 a0_0 (a0_0 == 7) a0_0 a0_1 a0_2 a0_3 l0_4 l0_5 a0_0 a0_1 a0_2 a0_3 a0_0 0 0 (⟨#[]⟩ : ByteArray)))
end
theorem spec_right.mono_l : ∀ k, (∀ y0 y1 y2 y3 y4 y5 y6, LeO (spec_right.f k y0 y1 y2 y3 y4 y5 y6) (spec_right.f (k + 1) y0 y1 y2 y3 y4 y5 y6)) ∧ (∀ y0 y1 y2 y3 y4 y5 y6 y7 y8 y9 y10 y11 y12 y13 y14, LeO (spec_right.j2 k y0 y1 y2 y3 y4 y5 y6 y7 y8 y9 y10 y11 y12 y13 y14) (spec_right.j2 (k + 1) y0 y1 y2 y3 y4 y5 y6 y7 y8 y9 y10 y11 y12 y13 y14)) ∧ (∀ y0 y1 y2 y3 y4 y5 y6 y7, LeO (spec_right.j3 k y0 y1 y2 y3 y4 y5 y6 y7) (spec_right.j3 (k + 1) y0 y1 y2 y3 y4 y5 y6 y7)) ∧ (∀ y0 y1 y2 y3 y4 y5 y6 y7, LeO (spec_right.j4 k y0 y1 y2 y3 y4 y5 y6 y7) (spec_right.j4 (k + 1) y0 y1 y2 y3 y4 y5 y6 y7)) ∧ (∀ y0 y1 y2 y3 y4 y5 y6 y7, LeO (spec_right.l0 k y0 y1 y2 y3 y4 y5 y6 y7) (spec_right.l0 (k + 1) y0 y1 y2 y3 y4 y5 y6 y7)) ∧ (∀ y0 y1 y2 y3 y4 y5 y6 y7 y8, LeO (spec_right.j6 k y0 y1 y2 y3 y4 y5 y6 y7 y8) (spec_right.j6 (k + 1) y0 y1 y2 y3 y4 y5 y6 y7 y8)) ∧ (∀ y0 y1 y2 y3 y4 y5 y6 y7 y8 y9 y10 y11 y12 y13 y14 y15 y16, LeO (spec_right.j0 k y0 y1 y2 y3 y4 y5 y6 y7 y8 y9 y10 y11 y12 y13 y14 y15 y16) (spec_right.j0 (k + 1) y0 y1 y2 y3 y4 y5 y6 y7 y8 y9 y10 y11 y12 y13 y14 y15 y16)) ∧ (∀ y0 y1 y2 y3 y4 y5 y6 y7 y8 y9 y10 y11 y12 y13 y14 y15 y16, LeO (spec_right.j1 k y0 y1 y2 y3 y4 y5 y6 y7 y8 y9 y10 y11 y12 y13 y14 y15 y16) (spec_right.j1 (k + 1) y0 y1 y2 y3 y4 y5 y6 y7 y8 y9 y10 y11 y12 y13 y14 y15 y16))
 | 0 => ⟨fun _ _ _ _ _ _ _ r h => by simp [spec_right.f] at h, fun _ _ _ _ _ _ _ _ _ _ _ _ _ _ _ r h => by simp [spec_right.j2] at h, fun _ _ _ _ _ _ _ _ r h => by simp [spec_right.j3] at h, fun _ _ _ _ _ _ _ _ r h => by simp [spec_right.j4] at h, fun _ _ _ _ _ _ _ _ r h => by simp [spec_right.l0] at h, fun _ _ _ _ _ _ _ _ _ r h => by simp [spec_right.j6] at h, fun _ _ _ _ _ _ _ _ _ _ _ _ _ _ _ _ _ r h => by simp [spec_right.j0] at h, fun _ _ _ _ _ _ _ _ _ _ _ _ _ _ _ _ _ r h => by simp [spec_right.j1] at h⟩
 | k + 1 => by
  obtain ⟨ih0, ih1, ih2, ih3, ih4, ih5, ih6, ih7⟩ := spec_right.mono_l k
  refine ⟨?_, ?_, ?_, ?_, ?_, ?_, ?_, ?_⟩
  ·
   intro y0 y1 y2 y3 y4 y5 y6
   unfold spec_right.f
   repeat' first
   | (with_reducible exact ih0 _ _ _ _ _ _ _)
   | (with_reducible exact ih1 _ _ _ _ _ _ _ _ _ _ _ _ _ _ _)
   | (with_reducible exact ih2 _ _ _ _ _ _ _ _)
   | (with_reducible exact ih3 _ _ _ _ _ _ _ _)
   | (with_reducible exact ih4 _ _ _ _ _ _ _ _)
   | (with_reducible exact ih5 _ _ _ _ _ _ _ _ _)
   | (with_reducible exact ih6 _ _ _ _ _ _ _ _ _ _ _ _ _ _ _ _ _)
   | (with_reducible exact ih7 _ _ _ _ _ _ _ _ _ _ _ _ _ _ _ _ _)
   | (with_reducible exact LeO.refl _)
   | (with_reducible exact LeO.none _)
   | (with_reducible refine LeO.ite ?_ ?_)
   | (with_reducible refine LeO.bind ?_ (fun _ => ?_))
   | exact ih0 _ _ _ _ _ _ _
   | exact ih1 _ _ _ _ _ _ _ _ _ _ _ _ _ _ _
   | exact ih2 _ _ _ _ _ _ _ _
   | exact ih3 _ _ _ _ _ _ _ _
   | exact ih4 _ _ _ _ _ _ _ _
   | exact ih5 _ _ _ _ _ _ _ _ _
   | exact ih6 _ _ _ _ _ _ _ _ _ _ _ _ _ _ _ _ _
   | exact ih7 _ _ _ _ _ _ _ _ _ _ _ _ _ _ _ _ _
   | exact LeO.none _
   | refine LeO.ite ?_ ?_
   | refine LeO.bind ?_ (fun _ => ?_)
  ·
   intro y0 y1 y2 y3 y4 y5 y6 y7 y8 y9 y10 y11 y12 y13 y14
   unfold spec_right.j2
   repeat' first
   | (with_reducible exact ih0 _ _ _ _ _ _ _)
   | (with_reducible exact ih1 _ _ _ _ _ _ _ _ _ _ _ _ _ _ _)
   | (with_reducible exact ih2 _ _ _ _ _ _ _ _)
   | (with_reducible exact ih3 _ _ _ _ _ _ _ _)
   | (with_reducible exact ih4 _ _ _ _ _ _ _ _)
   | (with_reducible exact ih5 _ _ _ _ _ _ _ _ _)
   | (with_reducible exact ih6 _ _ _ _ _ _ _ _ _ _ _ _ _ _ _ _ _)
   | (with_reducible exact ih7 _ _ _ _ _ _ _ _ _ _ _ _ _ _ _ _ _)
   | (with_reducible exact LeO.refl _)
   | (with_reducible exact LeO.none _)
   | (with_reducible refine LeO.ite ?_ ?_)
   | (with_reducible refine LeO.bind ?_ (fun _ => ?_))
   | exact ih0 _ _ _ _ _ _ _
   | exact ih1 _ _ _ _ _ _ _ _ _ _ _ _ _ _ _
   | exact ih2 _ _ _ _ _ _ _ _
   | exact ih3 _ _ _ _ _ _ _ _
   | exact ih4 _ _ _ _ _ _ _ _
   | exact ih5 _ _ _ _ _ _ _ _ _
   | exact ih6 _ _ _ _ _ _ _ _ _ _ _ _ _ _ _ _ _
   | exact ih7 _ _ _ _ _ _ _ _ _ _ _ _ _ _ _ _ _
   | exact LeO.none _
   | refine LeO.ite ?_ ?_
   | refine LeO.bind ?_ (fun _ => ?_)
  ·
   intro y0 y1 y2 y3 y4 y5 y6 y7
   unfold spec_right.j3
   repeat' first
   | (with_reducible exact ih0 _ _ _ _ _ _ _)
   | (with_reducible exact ih1 _ _ _ _ _ _ _ _ _ _ _ _ _ _ _)
   | (with_reducible exact ih2 _ _ _ _ _ _ _ _)
   | (with_reducible exact ih3 _ _ _ _ _ _ _ _)
   | (with_reducible exact ih4 _ _ _ _ _ _ _ _)
   | (with_reducible exact ih5 _ _ _ _ _ _ _ _ _)
   | (with_reducible exact ih6 _ _ _ _ _ _ _ _ _ _ _ _ _ _ _ _ _)
   | (with_reducible exact ih7 _ _ _ _ _ _ _ _ _ _ _ _ _ _ _ _ _)
   | (with_reducible exact LeO.refl _)
   | (with_reducible exact LeO.none _)
   | (with_reducible refine LeO.ite ?_ ?_)
   | (with_reducible refine LeO.bind ?_ (fun _ => ?_))
   | exact ih0 _ _ _ _ _ _ _
   | exact ih1 _ _ _ _ _ _ _ _ _ _ _ _ _ _ _
   | exact ih2 _ _ _ _ _ _ _ _
   | exact ih3 _ _ _ _ _ _ _ _
   | exact ih4 _ _ _ _ _ _ _ _
   | exact ih5 _ _ _ _ _ _ _ _ _
   | exact ih6 _ _ _ _ _ _ _ _ _ _ _ _ _ _ _ _ _
   | exact ih7 _ _ _ _ _ _ _ _ _ _ _ _ _ _ _ _ _
   | exact LeO.none _
   | refine LeO.ite ?_ ?_
   | refine LeO.bind ?_ (fun _ => ?_)
  ·
   intro y0 y1 y2 y3 y4 y5 y6 y7
   unfold spec_right.j4
   repeat' first
   | (with_reducible exact ih0 _ _ _ _ _ _ _)
   | (with_reducible exact ih1 _ _ _ _ _ _ _ _ _ _ _ _ _ _ _)
   | (with_reducible exact ih2 _ _ _ _ _ _ _ _)
   | (with_reducible exact ih3 _ _ _ _ _ _ _ _)
   | (with_reducible exact ih4 _ _ _ _ _ _ _ _)
   | (with_reducible exact ih5 _ _ _ _ _ _ _ _ _)
   | (with_reducible exact ih6 _ _ _ _ _ _ _ _ _ _ _ _ _ _ _ _ _)
   | (with_reducible exact ih7 _ _ _ _ _ _ _ _ _ _ _ _ _ _ _ _ _)
   | (with_reducible exact LeO.refl _)
   | (with_reducible exact LeO.none _)
   | (with_reducible refine LeO.ite ?_ ?_)
   | (with_reducible refine LeO.bind ?_ (fun _ => ?_))
   | exact ih0 _ _ _ _ _ _ _
   | exact ih1 _ _ _ _ _ _ _ _ _ _ _ _ _ _ _
   | exact ih2 _ _ _ _ _ _ _ _
   | exact ih3 _ _ _ _ _ _ _ _
   | exact ih4 _ _ _ _ _ _ _ _
   | exact ih5 _ _ _ _ _ _ _ _ _
   | exact ih6 _ _ _ _ _ _ _ _ _ _ _ _ _ _ _ _ _
   | exact ih7 _ _ _ _ _ _ _ _ _ _ _ _ _ _ _ _ _
   | exact LeO.none _
   | refine LeO.ite ?_ ?_
   | refine LeO.bind ?_ (fun _ => ?_)
  ·
   intro y0 y1 y2 y3 y4 y5 y6 y7
   unfold spec_right.l0
   repeat' first
   | (with_reducible exact ih0 _ _ _ _ _ _ _)
   | (with_reducible exact ih1 _ _ _ _ _ _ _ _ _ _ _ _ _ _ _)
   | (with_reducible exact ih2 _ _ _ _ _ _ _ _)
   | (with_reducible exact ih3 _ _ _ _ _ _ _ _)
   | (with_reducible exact ih4 _ _ _ _ _ _ _ _)
   | (with_reducible exact ih5 _ _ _ _ _ _ _ _ _)
   | (with_reducible exact ih6 _ _ _ _ _ _ _ _ _ _ _ _ _ _ _ _ _)
   | (with_reducible exact ih7 _ _ _ _ _ _ _ _ _ _ _ _ _ _ _ _ _)
   | (with_reducible exact LeO.refl _)
   | (with_reducible exact LeO.none _)
   | (with_reducible refine LeO.ite ?_ ?_)
   | (with_reducible refine LeO.bind ?_ (fun _ => ?_))
   | exact ih0 _ _ _ _ _ _ _
   | exact ih1 _ _ _ _ _ _ _ _ _ _ _ _ _ _ _
   | exact ih2 _ _ _ _ _ _ _ _
   | exact ih3 _ _ _ _ _ _ _ _
   | exact ih4 _ _ _ _ _ _ _ _
   | exact ih5 _ _ _ _ _ _ _ _ _
   | exact ih6 _ _ _ _ _ _ _ _ _ _ _ _ _ _ _ _ _
   | exact ih7 _ _ _ _ _ _ _ _ _ _ _ _ _ _ _ _ _
   | exact LeO.none _
   | refine LeO.ite ?_ ?_
   | refine LeO.bind ?_ (fun _ => ?_)
  ·
   intro y0 y1 y2 y3 y4 y5 y6 y7 y8
   unfold spec_right.j6
   repeat' first
   | (with_reducible exact ih0 _ _ _ _ _ _ _)
   | (with_reducible exact ih1 _ _ _ _ _ _ _ _ _ _ _ _ _ _ _)
   | (with_reducible exact ih2 _ _ _ _ _ _ _ _)
   | (with_reducible exact ih3 _ _ _ _ _ _ _ _)
   | (with_reducible exact ih4 _ _ _ _ _ _ _ _)
   | (with_reducible exact ih5 _ _ _ _ _ _ _ _ _)
   | (with_reducible exact ih6 _ _ _ _ _ _ _ _ _ _ _ _ _ _ _ _ _)
   | (with_reducible exact ih7 _ _ _ _ _ _ _ _ _ _ _ _ _ _ _ _ _)
   | (with_reducible exact LeO.refl _)
   | (with_reducible exact LeO.none _)
   | (with_reducible refine LeO.ite ?_ ?_)
   | (with_reducible refine LeO.bind ?_ (fun _ => ?_))
   | exact ih0 _ _ _ _ _ _ _
   | exact ih1 _ _ _ _ _ _ _ _ _ _ _ _ _ _ _
   | exact ih2 _ _ _ _ _ _ _ _
   | exact ih3 _ _ _ _ _ _ _ _
   | exact ih4 _ _ _ _ _ _ _ _
   | exact ih5 _ _ _ _ _ _ _ _ _
   | exact ih6 _ _ _ _ _ _ _ _ _ _ _ _ _ _ _ _ _
   | exact ih7 _ _ _ _ _ _ _ _ _ _ _ _ _ _ _ _ _
   | exact LeO.none _
   | refine LeO.ite ?_ ?_
   | refine LeO.bind ?_ (fun _ => ?_)
  ·
   intro y0 y1 y2 y3 y4 y5 y6 y7 y8 y9 y10 y11 y12 y13 y14 y15 y16
   unfold spec_right.j0
   repeat' first
   | (with_reducible exact ih0 _ _ _ _ _ _ _)
   | (with_reducible exact ih1 _ _ _ _ _ _ _ _ _ _ _ _ _ _ _)
   | (with_reducible exact ih2 _ _ _ _ _ _ _ _)
   | (with_reducible exact ih3 _ _ _ _ _ _ _ _)
   | (with_reducible exact ih4 _ _ _ _ _ _ _ _)
   | (with_reducible exact ih5 _ _ _ _ _ _ _ _ _)
   | (with_reducible exact ih6 _ _ _ _ _ _ _ _ _ _ _ _ _ _ _ _ _)
   | (with_reducible exact ih7 _ _ _ _ _ _ _ _ _ _ _ _ _ _ _ _ _)
   | (with_reducible exact LeO.refl _)
   | (with_reducible exact LeO.none _)
   | (with_reducible refine LeO.ite ?_ ?_)
   | (with_reducible refine LeO.bind ?_ (fun _ => ?_))
   | exact ih0 _ _ _ _ _ _ _
   | exact ih1 _ _ _ _ _ _ _ _ _ _ _ _ _ _ _
   | exact ih2 _ _ _ _ _ _ _ _
   | exact ih3 _ _ _ _ _ _ _ _
   | exact ih4 _ _ _ _ _ _ _ _
   | exact ih5 _ _ _ _ _ _ _ _ _
   | exact ih6 _ _ _ _ _ _ _ _ _ _ _ _ _ _ _ _ _
   | exact ih7 _ _ _ _ _ _ _ _ _ _ _ _ _ _ _ _ _
   | exact LeO.none _
   | refine LeO.ite ?_ ?_
   | refine LeO.bind ?_ (fun _ => ?_)
  ·
   intro y0 y1 y2 y3 y4 y5 y6 y7 y8 y9 y10 y11 y12 y13 y14 y15 y16
   unfold spec_right.j1
   repeat' first
   | (with_reducible exact ih0 _ _ _ _ _ _ _)
   | (with_reducible exact ih1 _ _ _ _ _ _ _ _ _ _ _ _ _ _ _)
   | (with_reducible exact ih2 _ _ _ _ _ _ _ _)
   | (with_reducible exact ih3 _ _ _ _ _ _ _ _)
   | (with_reducible exact ih4 _ _ _ _ _ _ _ _)
   | (with_reducible exact ih5 _ _ _ _ _ _ _ _ _)
   | (with_reducible exact ih6 _ _ _ _ _ _ _ _ _ _ _ _ _ _ _ _ _)
   | (with_reducible exact ih7 _ _ _ _ _ _ _ _ _ _ _ _ _ _ _ _ _)
   | (with_reducible exact LeO.refl _)
   | (with_reducible exact LeO.none _)
   | (with_reducible refine LeO.ite ?_ ?_)
   | (with_reducible refine LeO.bind ?_ (fun _ => ?_))
   | exact ih0 _ _ _ _ _ _ _
   | exact ih1 _ _ _ _ _ _ _ _ _ _ _ _ _ _ _
   | exact ih2 _ _ _ _ _ _ _ _
   | exact ih3 _ _ _ _ _ _ _ _
   | exact ih4 _ _ _ _ _ _ _ _
   | exact ih5 _ _ _ _ _ _ _ _ _
   | exact ih6 _ _ _ _ _ _ _ _ _ _ _ _ _ _ _ _ _
   | exact ih7 _ _ _ _ _ _ _ _ _ _ _ _ _ _ _ _ _
   | exact LeO.none _
   | refine LeO.ite ?_ ?_
   | refine LeO.bind ?_ (fun _ => ?_)
theorem spec_right.mono : ∀ a0 a1 a2 a3 a4 a5 a6 k, LeO (spec_right.f k a0 a1 a2 a3 a4 a5 a6) (spec_right.f (k + 1) a0 a1 a2 a3 a4 a5 a6) := by
 intro a0 a1 a2 a3 a4 a5 a6 k
 obtain ⟨ih0, ih1, ih2, ih3, ih4, ih5, ih6, ih7⟩ := spec_right.mono_l k
 exact ih0 a0 a1 a2 a3 a4 a5 a6
def spec_right.T25 : Bool × List (List Nat × List Nat) := (true, [([], []), ([0], [0]), ([], []), ([1, 2], [1, 2]), ([3], [3]), ([], []), ([5], [5]), ([4, 6], [4, 6]), ([7], [7]), ([8, 7], [8]), ([9], [9]), ([10, 9], [9, 10]), ([11, 9], [9, 11]), ([12, 9, 9], [9, 12]), ([13], [13]), ([14, 13], [13, 14]), ([13], [13]), ([15, 16, 13], [13, 15, 16]), ([17, 13], [13, 17]), ([18, 13], [13, 18]), ([19, 13], [13, 19]), ([20, 13, 13], [13, 20]), ([21], [21]), ([22, 21], [21, 22]), ([23, 21, 21], [21, 23]), ([24], [24]), ([25, 24], [24, 25]), ([24], [24]), ([26, 27, 24], [24, 26, 27]), ([28, 24], [24, 28]), ([24], [24]), ([30, 24], [24, 30]), ([24], [24]), ([32, 24], [24, 32]), ([31, 33, 24], [24, 31, 33]), ([34, 24], [24, 34]), ([29, 35, 24], [24, 29, 35]), ([24, 36, 21], [21, 24, 36]), ([21, 37, 13], [13, 21, 37]), ([13, 38, 9], [9, 13, 38]), ([9, 39], [9, 39])])
def spec_right.B25 : List Nat := [0, 1, 0, 7, 15, 0, 32, 127, 255, 511, 1023, 2047, 4095, 8191, 16383, 32767, 16383, 131071, 262143, 524287, 1048575, 2097151, 4194303, 8388607, 16777215, 33554431, 67108863, 33554431, 268435455, 536870911, 33554431, 1107296255, 33554431, 4328521727, 16139681791, 33319550975, 68719476735, 137438953471, 274877906943, 549755813887, 1099511627775]
theorem spec_right.tab25 : rtab .any (opsOf Try.f17 25) = spec_right.T25 := by kernel_rfl
theorem spec_right.bits25 : waitsOk spec_right.T25.2 spec_right.B25 = true := by kernel_rfl
set_option maxHeartbeats 8000000 in
set_option maxRecDepth 100000 in
theorem spec_right.calls (k : Nat) : ∀ (a0_0 : Int) (a0_1 : Int) (a0_2 : Nat) (a0_3 : ByteArray) (A0_4 : Option Addr) (c0_4 : Nat) (l0_4 : List ByteArray) (A0_5 : Option Addr) (c0_5 : Nat) (l0_5 : List (S31)) (a1 : Int) (r : Bool) (w : World) (hr0_4 : Kd.C Kd.string w A0_4 l0_4.length l0_4) (hc0_4 : l0_4.length ≤ c0_4) (hr0_5 : Kd.C k31 w A0_5 l0_5.length l0_5) (hc0_5 : l0_5.length ≤ c0_5) (h : spec_right.f k a0_0 a0_1 a0_2 a0_3 l0_4 l0_5 a1 = some r),
  Calls Try.prog 17 #[.agg #[.int .i64 a0_0, .int .i64 a0_1, .float .f64 a0_2, .string a0_3, .slice A0_4 l0_4.length c0_4, .slice A0_5 l0_5.length c0_5], .int .i64 a1] w fun e w' => e = .returned (.bool r) ∧ Below w.heap.size w w' := by
 induction k using Nat.strongRecOn with
 | _ k ih =>
 intro a0_0 a0_1 a0_2 a0_3 A0_4 c0_4 l0_4 A0_5 c0_5 l0_5 a1 r w hr0_4 hc0_4 hr0_5 hc0_5 h
 cases k with
 | zero => exact absurd h (by simp [spec_right.f])
 | succ k =>
 simp only [spec_right.f] at h
 have hu31 := Try.underlying31
 have HR0_4 := Aside0.mk hr0_4
 have HC0_4 := Aside0.mk hc0_4
 clear hr0_4 hc0_4
 have HR0_5 := Aside0.mk hr0_5
 have HC0_5 := Aside0.mk hc0_5
 clear hr0_5 hc0_5
 have HB := Aside0.mk (Below.refl w.heap.size w)
 have H : (if a0_0 = 0 then (spec_right.j0 k a1 a0_0 (a0_0 == 0) a0_0 a0_1 a0_2 a0_3 l0_4 l0_5 a0_0 a0_1 a0_2 a0_3 a0_0 0 0 (⟨#[]⟩ : ByteArray)) else (if a0_0 = 6 then (spec_right.j0 k a1 a0_0 (a0_0 == 6) a0_0 a0_1 a0_2 a0_3 l0_4 l0_5 a0_0 a0_1 a0_2 a0_3 a0_0 0 0 (⟨#[]⟩ : ByteArray)) else (spec_right.j0 k a1 a0_0 (a0_0 == 7) a0_0 a0_1 a0_2 a0_3 l0_4 l0_5 a0_0 a0_1 a0_2 a0_3 a0_0 0 0 (⟨#[]⟩ : ByteArray)))) = some r := h
 clear h
 have HC3 := Aside0.mk H
 clear H
 go_enter Try.func17, Try.ntmps17
 go_upto_block 0 with (first | ((with_reducible refine gate_dst (N := 2) rfl ?_); (try (refine gate_guard (by rfl) ?_; dsimp only)); refine box_event ?hg (N := 2) ?hd (cs := #[.int .i64 a0_0, .int .i64 a0_1, .float .f64 a0_2, .string a0_3, .slice A0_4 l0_4.length c0_4, .slice A0_5 l0_5.length c0_5]) (t := 31) ?hr ?_; (case hd => rfl); (case hg => rfl); (case hr => first | (go_simp; done) | (go_simp; rfl)); intro gb106 hg w4 hbox hb; have n0_ := Aside0.mk (below_step (by repeat (first | (with_reducible first | exact HB.out | apply below_alloc | apply pw_below_drewN | apply below_drew1) | exact HB.out)) hb); have n1_ := Aside0.mk (hbox); have n2_ := Aside0.mk ((by rw [hg]; exact (below_size (by repeat (first | (with_reducible first | exact HB.out | apply below_alloc | apply pw_below_drewN | apply below_drew1) | exact HB.out))) : w.heap.size ≤ gb106)); have n3_ := Aside0.mk ((by rw [hg]; exact (below_size (by repeat (first | (with_reducible first | exact HB.out | apply below_alloc | apply pw_below_drewN | apply below_drew1) | exact HB.out))) : w.heap.size ≤ gb106)); clear HB; have HB := n0_; have BK106 := n1_; have GW106 := n2_; have GE106 := n3_; clear n0_ n1_ n2_ n3_; clear hb hbox hg; have hcz5_0 : w4.cell? ⟨gb106, 0, none⟩ = some (.int .i64 a0_0) := (blk_cell BK106.out 0).trans rfl; have hcz5_1 : w4.cell? ⟨gb106, 1, none⟩ = some (.int .i64 a0_1) := (blk_cell BK106.out 1).trans rfl; have hcz5_2 : w4.cell? ⟨gb106, 2, none⟩ = some (.float .f64 a0_2) := (blk_cell BK106.out 2).trans rfl; have hcz5_3 : w4.cell? ⟨gb106, 3, none⟩ = some (.string a0_3) := (blk_cell BK106.out 3).trans rfl; have hcz5_4 : w4.cell? ⟨gb106, 4, none⟩ = some (.slice A0_4 l0_4.length c0_4) := (blk_cell BK106.out 4).trans rfl; have hcz5_5 : w4.cell? ⟨gb106, 5, none⟩ = some (.slice A0_5 l0_5.length c0_5) := (blk_cell BK106.out 5).trans rfl; have hfz5_0 := blk_frozen BK106.out 0; have hfz5_1 := blk_frozen BK106.out 1; have hfz5_2 := blk_frozen BK106.out 2; have hfz5_3 := blk_frozen BK106.out 3; have hfz5_4 := blk_frozen BK106.out 4; have hfz5_5 := blk_frozen BK106.out 5) | ((with_reducible refine gate_dst (N := 5) rfl ?_); (try (refine gate_guard (by rfl) ?_; dsimp only)); refine box_event ?hg (N := 5) ?hd (cs := #[.int .i64 0, .int .i64 0, .float .f64 0, .string (⟨#[]⟩ : ByteArray), .slice none 0 0, .slice none 0 0]) (t := 31) ?hr ?_; (case hd => rfl); (case hg => rfl); (case hr => first | (go_simp; done) | (go_simp; rfl)); intro gb107 hg w6 hbox hb; have n0_ := Aside0.mk (blk_below (g := gb106) (o := .cells #[.int .i64 a0_0, .int .i64 a0_1, .float .f64 a0_2, .string a0_3, .slice A0_4 l0_4.length c0_4, .slice A0_5 l0_5.length c0_5] 31 (0, 0)) (by (with_reducible repeat first | apply blk_drewN | apply blk_drew | apply blk_alloc); exact BK106.out) hb); have n1_ := Aside0.mk (below_step (by repeat (first | (with_reducible first | exact HB.out | apply below_alloc | apply pw_below_drewN | apply below_drew1 | refine below_set ?_ GE106.out) | exact HB.out)) hb); have n2_ := Aside0.mk (hbox); have n3_ := Aside0.mk ((by rw [hg]; exact (below_size (by repeat (first | (with_reducible first | exact HB.out | apply below_alloc | apply pw_below_drewN | apply below_drew1 | refine below_set ?_ GE106.out) | exact HB.out))) : w.heap.size ≤ gb107)); have n4_ := Aside0.mk ((by rw [hg]; exact (below_size (by repeat (first | (with_reducible first | exact HB.out | apply below_alloc | apply pw_below_drewN | apply below_drew1 | refine below_set ?_ GE106.out) | exact HB.out))) : w.heap.size ≤ gb107)); have n5_ := Aside0.mk ((by rw [hg]; exact Nat.ne_of_lt (blk_lt (g := gb106) (o := .cells #[.int .i64 a0_0, .int .i64 a0_1, .float .f64 a0_2, .string a0_3, .slice A0_4 l0_4.length c0_4, .slice A0_5 l0_5.length c0_5] 31 (0, 0)) (by (with_reducible repeat first | apply blk_drewN | apply blk_drew | apply blk_alloc); exact BK106.out)) : gb106 ≠ gb107)); have n6_ := Aside0.mk ((by rw [hg]; exact Nat.ne_of_gt (blk_lt (g := gb106) (o := .cells #[.int .i64 a0_0, .int .i64 a0_1, .float .f64 a0_2, .string a0_3, .slice A0_4 l0_4.length c0_4, .slice A0_5 l0_5.length c0_5] 31 (0, 0)) (by (with_reducible repeat first | apply blk_drewN | apply blk_drew | apply blk_alloc); exact BK106.out)) : gb107 ≠ gb106)); clear BK106; clear HB; have BK106 := n0_; have HB := n1_; have BK107 := n2_; have GW107 := n3_; have GE107 := n4_; have NB106_107 := n5_; have NB107_106 := n6_; clear n0_ n1_ n2_ n3_ n4_ n5_ n6_; clear hb hbox hg; have hnb7 := NB107_106.out; have hnc7 := NB106_107.out; have hcz8_0 : w6.cell? ⟨gb107, 0, none⟩ = some (.int .i64 0) := (blk_cell BK107.out 0).trans rfl; have hcz8_1 : w6.cell? ⟨gb107, 1, none⟩ = some (.int .i64 0) := (blk_cell BK107.out 1).trans rfl; have hcz8_2 : w6.cell? ⟨gb107, 2, none⟩ = some (.float .f64 0) := (blk_cell BK107.out 2).trans rfl; have hcz8_3 : w6.cell? ⟨gb107, 3, none⟩ = some (.string (⟨#[]⟩ : ByteArray)) := (blk_cell BK107.out 3).trans rfl; have hcz8_4 : w6.cell? ⟨gb107, 4, none⟩ = some (.slice none 0 0) := (blk_cell BK107.out 4).trans rfl; have hcz8_5 : w6.cell? ⟨gb107, 5, none⟩ = some (.slice none 0 0) := (blk_cell BK107.out 5).trans rfl; have hfz8_0 := blk_frozen BK107.out 0; have hfz8_1 := blk_frozen BK107.out 1; have hfz8_2 := blk_frozen BK107.out 2; have hfz8_3 := blk_frozen BK107.out 3; have hfz8_4 := blk_frozen BK107.out 4; have hfz8_5 := blk_frozen BK107.out 5; have hcz9_0 : w6.cell? ⟨gb106, 0, none⟩ = some (.int .i64 a0_0) := (blk_cell BK106.out 0).trans rfl; have hcz9_1 : w6.cell? ⟨gb106, 1, none⟩ = some (.int .i64 a0_1) := (blk_cell BK106.out 1).trans rfl; have hcz9_2 : w6.cell? ⟨gb106, 2, none⟩ = some (.float .f64 a0_2) := (blk_cell BK106.out 2).trans rfl; have hcz9_3 : w6.cell? ⟨gb106, 3, none⟩ = some (.string a0_3) := (blk_cell BK106.out 3).trans rfl; have hcz9_4 : w6.cell? ⟨gb106, 4, none⟩ = some (.slice A0_4 l0_4.length c0_4) := (blk_cell BK106.out 4).trans rfl; have hcz9_5 : w6.cell? ⟨gb106, 5, none⟩ = some (.slice A0_5 l0_5.length c0_5) := (blk_cell BK106.out 5).trans rfl; have hfz9_0 := blk_frozen BK106.out 0; have hfz9_1 := blk_frozen BK106.out 1; have hfz9_2 := blk_frozen BK106.out 2; have hfz9_3 := blk_frozen BK106.out 3; have hfz9_4 := blk_frozen BK106.out 4; have hfz9_5 := blk_frozen BK106.out 5) | ((with_reducible refine gate_dst (N := 6) rfl ?_); (try (refine gate_guard (by rfl) ?_; dsimp only)); refine box_event ?hg (N := 6) ?hd (cs := #[.int .i64 0, .int .i64 0, .float .f64 0, .string (⟨#[]⟩ : ByteArray), .slice none 0 0, .slice none 0 0]) (t := 31) ?hr ?_; (case hd => rfl); (case hg => rfl); (case hr => first | (go_simp; done) | (go_simp; rfl)); intro gb108 hg w10 hbox hb; have n0_ := Aside0.mk (blk_below (g := gb106) (o := .cells #[.int .i64 a0_0, .int .i64 a0_1, .float .f64 a0_2, .string a0_3, .slice A0_4 l0_4.length c0_4, .slice A0_5 l0_5.length c0_5] 31 (0, 0)) (by (with_reducible repeat first | apply blk_drewN | apply blk_drew | apply blk_alloc); refine blk_far ?_ NB106_107.out _; (with_reducible repeat first | apply blk_drewN | apply blk_drew | apply blk_alloc); refine blk_far ?_ NB106_107.out _; (with_reducible repeat first | apply blk_drewN | apply blk_drew | apply blk_alloc); refine blk_far ?_ NB106_107.out _; (with_reducible repeat first | apply blk_drewN | apply blk_drew | apply blk_alloc); refine blk_far ?_ NB106_107.out _; (with_reducible repeat first | apply blk_drewN | apply blk_drew | apply blk_alloc); refine blk_far ?_ NB106_107.out _; (with_reducible repeat first | apply blk_drewN | apply blk_drew | apply blk_alloc); refine blk_far ?_ NB106_107.out _; (with_reducible repeat first | apply blk_drewN | apply blk_drew | apply blk_alloc); refine blk_far ?_ NB106_107.out _; (with_reducible repeat first | apply blk_drewN | apply blk_drew | apply blk_alloc); refine blk_far ?_ NB106_107.out _; (with_reducible repeat first | apply blk_drewN | apply blk_drew | apply blk_alloc); exact BK106.out) hb); have n1_ := Aside0.mk (blk_below (g := gb107) (o := .cells #[.int .i64 a0_0, .int .i64 a0_1, .float .f64 a0_2, .string a0_3, .slice none 0 0, .slice none 0 0] 31 (0, 0)) (by (with_reducible repeat first | apply blk_drewN | apply blk_drew | apply blk_alloc); refine blk_put (cs := #[.int .i64 a0_0, .int .i64 a0_1, .float .f64 a0_2, .string a0_3, .slice none 0 0, .slice A0_5 l0_5.length c0_5]) ?_ 5 _ rfl; (with_reducible repeat first | apply blk_drewN | apply blk_drew | apply blk_alloc); refine blk_put (cs := #[.int .i64 a0_0, .int .i64 a0_1, .float .f64 a0_2, .string a0_3, .slice A0_4 l0_4.length c0_4, .slice A0_5 l0_5.length c0_5]) ?_ 4 _ rfl; (with_reducible repeat first | apply blk_drewN | apply blk_drew | apply blk_alloc); refine blk_put (cs := #[.int .i64 a0_0, .int .i64 a0_1, .float .f64 a0_2, .string a0_3, .slice A0_4 l0_4.length c0_4, .slice none 0 0]) ?_ 5 _ rfl; (with_reducible repeat first | apply blk_drewN | apply blk_drew | apply blk_alloc); refine blk_put (cs := #[.int .i64 a0_0, .int .i64 a0_1, .float .f64 a0_2, .string a0_3, .slice none 0 0, .slice none 0 0]) ?_ 4 _ rfl; (with_reducible repeat first | apply blk_drewN | apply blk_drew | apply blk_alloc); refine blk_put (cs := #[.int .i64 a0_0, .int .i64 a0_1, .float .f64 a0_2, .string (⟨#[]⟩ : ByteArray), .slice none 0 0, .slice none 0 0]) ?_ 3 _ rfl; (with_reducible repeat first | apply blk_drewN | apply blk_drew | apply blk_alloc); refine blk_put (cs := #[.int .i64 a0_0, .int .i64 a0_1, .float .f64 0, .string (⟨#[]⟩ : ByteArray), .slice none 0 0, .slice none 0 0]) ?_ 2 _ rfl; (with_reducible repeat first | apply blk_drewN | apply blk_drew | apply blk_alloc); refine blk_put (cs := #[.int .i64 a0_0, .int .i64 0, .float .f64 0, .string (⟨#[]⟩ : ByteArray), .slice none 0 0, .slice none 0 0]) ?_ 1 _ rfl; (with_reducible repeat first | apply blk_drewN | apply blk_drew | apply blk_alloc); refine blk_put (cs := #[.int .i64 0, .int .i64 0, .float .f64 0, .string (⟨#[]⟩ : ByteArray), .slice none 0 0, .slice none 0 0]) ?_ 0 _ rfl; (with_reducible repeat first | apply blk_drewN | apply blk_drew | apply blk_alloc); exact BK107.out) hb); have n2_ := Aside0.mk (below_step (by repeat (first | (with_reducible first | exact HB.out | apply below_alloc | apply pw_below_drewN | apply below_drew1 | refine below_set ?_ GE106.out | refine below_set ?_ GE107.out) | exact HB.out)) hb); have n3_ := Aside0.mk (hbox); have n4_ := Aside0.mk ((by rw [hg]; exact (below_size (by repeat (first | (with_reducible first | exact HB.out | apply below_alloc | apply pw_below_drewN | apply below_drew1 | refine below_set ?_ GE106.out | refine below_set ?_ GE107.out) | exact HB.out))) : w.heap.size ≤ gb108)); have n5_ := Aside0.mk ((by rw [hg]; exact (below_size (by repeat (first | (with_reducible first | exact HB.out | apply below_alloc | apply pw_below_drewN | apply below_drew1 | refine below_set ?_ GE106.out | refine below_set ?_ GE107.out) | exact HB.out))) : w.heap.size ≤ gb108)); have n6_ := Aside0.mk ((by rw [hg]; exact Nat.ne_of_lt (blk_lt (g := gb106) (o := .cells #[.int .i64 a0_0, .int .i64 a0_1, .float .f64 a0_2, .string a0_3, .slice A0_4 l0_4.length c0_4, .slice A0_5 l0_5.length c0_5] 31 (0, 0)) (by (with_reducible repeat first | apply blk_drewN | apply blk_drew | apply blk_alloc); refine blk_far ?_ NB106_107.out _; (with_reducible repeat first | apply blk_drewN | apply blk_drew | apply blk_alloc); refine blk_far ?_ NB106_107.out _; (with_reducible repeat first | apply blk_drewN | apply blk_drew | apply blk_alloc); refine blk_far ?_ NB106_107.out _; (with_reducible repeat first | apply blk_drewN | apply blk_drew | apply blk_alloc); refine blk_far ?_ NB106_107.out _; (with_reducible repeat first | apply blk_drewN | apply blk_drew | apply blk_alloc); refine blk_far ?_ NB106_107.out _; (with_reducible repeat first | apply blk_drewN | apply blk_drew | apply blk_alloc); refine blk_far ?_ NB106_107.out _; (with_reducible repeat first | apply blk_drewN | apply blk_drew | apply blk_alloc); refine blk_far ?_ NB106_107.out _; (with_reducible repeat first | apply blk_drewN | apply blk_drew | apply blk_alloc); refine blk_far ?_ NB106_107.out _; (with_reducible repeat first | apply blk_drewN | apply blk_drew | apply blk_alloc); exact BK106.out)) : gb106 ≠ gb108)); have n7_ := Aside0.mk ((by rw [hg]; exact Nat.ne_of_gt (blk_lt (g := gb106) (o := .cells #[.int .i64 a0_0, .int .i64 a0_1, .float .f64 a0_2, .string a0_3, .slice A0_4 l0_4.length c0_4, .slice A0_5 l0_5.length c0_5] 31 (0, 0)) (by (with_reducible repeat first | apply blk_drewN | apply blk_drew | apply blk_alloc); refine blk_far ?_ NB106_107.out _; (with_reducible repeat first | apply blk_drewN | apply blk_drew | apply blk_alloc); refine blk_far ?_ NB106_107.out _; (with_reducible repeat first | apply blk_drewN | apply blk_drew | apply blk_alloc); refine blk_far ?_ NB106_107.out _; (with_reducible repeat first | apply blk_drewN | apply blk_drew | apply blk_alloc); refine blk_far ?_ NB106_107.out _; (with_reducible repeat first | apply blk_drewN | apply blk_drew | apply blk_alloc); refine blk_far ?_ NB106_107.out _; (with_reducible repeat first | apply blk_drewN | apply blk_drew | apply blk_alloc); refine blk_far ?_ NB106_107.out _; (with_reducible repeat first | apply blk_drewN | apply blk_drew | apply blk_alloc); refine blk_far ?_ NB106_107.out _; (with_reducible repeat first | apply blk_drewN | apply blk_drew | apply blk_alloc); refine blk_far ?_ NB106_107.out _; (with_reducible repeat first | apply blk_drewN | apply blk_drew | apply blk_alloc); exact BK106.out)) : gb108 ≠ gb106)); have n8_ := Aside0.mk ((by rw [hg]; exact Nat.ne_of_lt (blk_lt (g := gb107) (o := .cells #[.int .i64 a0_0, .int .i64 a0_1, .float .f64 a0_2, .string a0_3, .slice none 0 0, .slice none 0 0] 31 (0, 0)) (by (with_reducible repeat first | apply blk_drewN | apply blk_drew | apply blk_alloc); refine blk_put (cs := #[.int .i64 a0_0, .int .i64 a0_1, .float .f64 a0_2, .string a0_3, .slice none 0 0, .slice A0_5 l0_5.length c0_5]) ?_ 5 _ rfl; (with_reducible repeat first | apply blk_drewN | apply blk_drew | apply blk_alloc); refine blk_put (cs := #[.int .i64 a0_0, .int .i64 a0_1, .float .f64 a0_2, .string a0_3, .slice A0_4 l0_4.length c0_4, .slice A0_5 l0_5.length c0_5]) ?_ 4 _ rfl; (with_reducible repeat first | apply blk_drewN | apply blk_drew | apply blk_alloc); refine blk_put (cs := #[.int .i64 a0_0, .int .i64 a0_1, .float .f64 a0_2, .string a0_3, .slice A0_4 l0_4.length c0_4, .slice none 0 0]) ?_ 5 _ rfl; (with_reducible repeat first | apply blk_drewN | apply blk_drew | apply blk_alloc); refine blk_put (cs := #[.int .i64 a0_0, .int .i64 a0_1, .float .f64 a0_2, .string a0_3, .slice none 0 0, .slice none 0 0]) ?_ 4 _ rfl; (with_reducible repeat first | apply blk_drewN | apply blk_drew | apply blk_alloc); refine blk_put (cs := #[.int .i64 a0_0, .int .i64 a0_1, .float .f64 a0_2, .string (⟨#[]⟩ : ByteArray), .slice none 0 0, .slice none 0 0]) ?_ 3 _ rfl; (with_reducible repeat first | apply blk_drewN | apply blk_drew | apply blk_alloc); refine blk_put (cs := #[.int .i64 a0_0, .int .i64 a0_1, .float .f64 0, .string (⟨#[]⟩ : ByteArray), .slice none 0 0, .slice none 0 0]) ?_ 2 _ rfl; (with_reducible repeat first | apply blk_drewN | apply blk_drew | apply blk_alloc); refine blk_put (cs := #[.int .i64 a0_0, .int .i64 0, .float .f64 0, .string (⟨#[]⟩ : ByteArray), .slice none 0 0, .slice none 0 0]) ?_ 1 _ rfl; (with_reducible repeat first | apply blk_drewN | apply blk_drew | apply blk_alloc); refine blk_put (cs := #[.int .i64 0, .int .i64 0, .float .f64 0, .string (⟨#[]⟩ : ByteArray), .slice none 0 0, .slice none 0 0]) ?_ 0 _ rfl; (with_reducible repeat first | apply blk_drewN | apply blk_drew | apply blk_alloc); exact BK107.out)) : gb107 ≠ gb108)); have n9_ := Aside0.mk ((by rw [hg]; exact Nat.ne_of_gt (blk_lt (g := gb107) (o := .cells #[.int .i64 a0_0, .int .i64 a0_1, .float .f64 a0_2, .string a0_3, .slice none 0 0, .slice none 0 0] 31 (0, 0)) (by (with_reducible repeat first | apply blk_drewN | apply blk_drew | apply blk_alloc); refine blk_put (cs := #[.int .i64 a0_0, .int .i64 a0_1, .float .f64 a0_2, .string a0_3, .slice none 0 0, .slice A0_5 l0_5.length c0_5]) ?_ 5 _ rfl; (with_reducible repeat first | apply blk_drewN | apply blk_drew | apply blk_alloc); refine blk_put (cs := #[.int .i64 a0_0, .int .i64 a0_1, .float .f64 a0_2, .string a0_3, .slice A0_4 l0_4.length c0_4, .slice A0_5 l0_5.length c0_5]) ?_ 4 _ rfl; (with_reducible repeat first | apply blk_drewN | apply blk_drew | apply blk_alloc); refine blk_put (cs := #[.int .i64 a0_0, .int .i64 a0_1, .float .f64 a0_2, .string a0_3, .slice A0_4 l0_4.length c0_4, .slice none 0 0]) ?_ 5 _ rfl; (with_reducible repeat first | apply blk_drewN | apply blk_drew | apply blk_alloc); refine blk_put (cs := #[.int .i64 a0_0, .int .i64 a0_1, .float .f64 a0_2, .string a0_3, .slice none 0 0, .slice none 0 0]) ?_ 4 _ rfl; (with_reducible repeat first | apply blk_drewN | apply blk_drew | apply blk_alloc); refine blk_put (cs := #[.int .i64 a0_0, .int .i64 a0_1, .float .f64 a0_2, .string (⟨#[]⟩ : ByteArray), .slice none 0 0, .slice none 0 0]) ?_ 3 _ rfl; (with_reducible repeat first | apply blk_drewN | apply blk_drew | apply blk_alloc); refine blk_put (cs := #[.int .i64 a0_0, .int .i64 a0_1, .float .f64 0, .string (⟨#[]⟩ : ByteArray), .slice none 0 0, .slice none 0 0]) ?_ 2 _ rfl; (with_reducible repeat first | apply blk_drewN | apply blk_drew | apply blk_alloc); refine blk_put (cs := #[.int .i64 a0_0, .int .i64 0, .float .f64 0, .string (⟨#[]⟩ : ByteArray), .slice none 0 0, .slice none 0 0]) ?_ 1 _ rfl; (with_reducible repeat first | apply blk_drewN | apply blk_drew | apply blk_alloc); refine blk_put (cs := #[.int .i64 0, .int .i64 0, .float .f64 0, .string (⟨#[]⟩ : ByteArray), .slice none 0 0, .slice none 0 0]) ?_ 0 _ rfl; (with_reducible repeat first | apply blk_drewN | apply blk_drew | apply blk_alloc); exact BK107.out)) : gb108 ≠ gb107)); clear BK106; clear BK107; clear HB; have BK106 := n0_; have BK107 := n1_; have HB := n2_; have BK108 := n3_; have GW108 := n4_; have GE108 := n5_; have NB106_108 := n6_; have NB108_106 := n7_; have NB107_108 := n8_; have NB108_107 := n9_; clear n0_ n1_ n2_ n3_ n4_ n5_ n6_ n7_ n8_ n9_; clear hb hbox hg; have hnb11 := NB108_106.out; have hnc11 := NB106_108.out; have hnb12 := NB108_107.out; have hnc12 := NB107_108.out; have hcz13_0 : w10.cell? ⟨gb108, 0, none⟩ = some (.int .i64 0) := (blk_cell BK108.out 0).trans rfl; have hcz13_1 : w10.cell? ⟨gb108, 1, none⟩ = some (.int .i64 0) := (blk_cell BK108.out 1).trans rfl; have hcz13_2 : w10.cell? ⟨gb108, 2, none⟩ = some (.float .f64 0) := (blk_cell BK108.out 2).trans rfl; have hcz13_3 : w10.cell? ⟨gb108, 3, none⟩ = some (.string (⟨#[]⟩ : ByteArray)) := (blk_cell BK108.out 3).trans rfl; have hcz13_4 : w10.cell? ⟨gb108, 4, none⟩ = some (.slice none 0 0) := (blk_cell BK108.out 4).trans rfl; have hcz13_5 : w10.cell? ⟨gb108, 5, none⟩ = some (.slice none 0 0) := (blk_cell BK108.out 5).trans rfl; have hfz13_0 := blk_frozen BK108.out 0; have hfz13_1 := blk_frozen BK108.out 1; have hfz13_2 := blk_frozen BK108.out 2; have hfz13_3 := blk_frozen BK108.out 3; have hfz13_4 := blk_frozen BK108.out 4; have hfz13_5 := blk_frozen BK108.out 5; have hcz14_0 : w10.cell? ⟨gb106, 0, none⟩ = some (.int .i64 a0_0) := (blk_cell BK106.out 0).trans rfl; have hcz14_1 : w10.cell? ⟨gb106, 1, none⟩ = some (.int .i64 a0_1) := (blk_cell BK106.out 1).trans rfl; have hcz14_2 : w10.cell? ⟨gb106, 2, none⟩ = some (.float .f64 a0_2) := (blk_cell BK106.out 2).trans rfl; have hcz14_3 : w10.cell? ⟨gb106, 3, none⟩ = some (.string a0_3) := (blk_cell BK106.out 3).trans rfl; have hcz14_4 : w10.cell? ⟨gb106, 4, none⟩ = some (.slice A0_4 l0_4.length c0_4) := (blk_cell BK106.out 4).trans rfl; have hcz14_5 : w10.cell? ⟨gb106, 5, none⟩ = some (.slice A0_5 l0_5.length c0_5) := (blk_cell BK106.out 5).trans rfl; have hfz14_0 := blk_frozen BK106.out 0; have hfz14_1 := blk_frozen BK106.out 1; have hfz14_2 := blk_frozen BK106.out 2; have hfz14_3 := blk_frozen BK106.out 3; have hfz14_4 := blk_frozen BK106.out 4; have hfz14_5 := blk_frozen BK106.out 5))
 (try simp only [Act.put, List.setIfInBounds_toArray, List.set_cons_zero, List.set_cons_succ])
 go_cut [] (fun wc => ∃ (kq : Nat) (x109001_2 : Int) (x109002_2 : Nat) (x109003_2 : ByteArray), Aside0 (spec_right.j2 kq a1 a0_0 a0_1 a0_2 a0_3 l0_4 l0_5 a0_0 a0_1 a0_2 a0_3 a0_0 x109001_2 x109002_2 x109003_2 = some r) ∧ Aside0 (kq ≤ k) ∧ Aside0 (wc.heap[gb106]? = some (.cells #[.int .i64 a0_0, .int .i64 a0_1, .float .f64 a0_2, .string a0_3, (.slice A0_4 l0_4.length c0_4), (.slice A0_5 l0_5.length c0_5)] 31 (0, 0))) ∧ Aside0 (wc.heap[gb107]? = some (.cells #[.int .i64 a0_0, .int .i64 a0_1, .float .f64 a0_2, .string a0_3, (.slice none 0 0), (.slice none 0 0)] 31 (0, 0))) ∧ Aside0 (wc.heap[gb108]? = some (.cells #[.int .i64 a0_0, .int .i64 x109001_2, .float .f64 x109002_2, .string x109003_2, (.slice none 0 0), (.slice none 0 0)] 31 (0, 0))) ∧ Aside0 (Below w.heap.size w wc))
 case first =>
  have H := HC3.out
  clear HC3
  have HC15 := Aside0.mk H
  clear H
  go_upto_if 16 with (fail)
  go_cut [16] (fun v16 wc => ∃ (kq : Nat) (x16_14 : Bool), v16 = .bool x16_14 ∧ Aside0 (spec_right.j0 kq a1 a0_0 x16_14 a0_0 a0_1 a0_2 a0_3 l0_4 l0_5 a0_0 a0_1 a0_2 a0_3 a0_0 0 0 (⟨#[]⟩ : ByteArray) = some r) ∧ Aside0 (kq ≤ k) ∧ Aside0 (wc.heap[gb106]? = some (.cells #[.int .i64 a0_0, .int .i64 a0_1, .float .f64 a0_2, .string a0_3, (.slice A0_4 l0_4.length c0_4), (.slice A0_5 l0_5.length c0_5)] 31 (0, 0))) ∧ Aside0 (wc.heap[gb107]? = some (.cells #[.int .i64 a0_0, .int .i64 a0_1, .float .f64 a0_2, .string a0_3, (.slice none 0 0), (.slice none 0 0)] 31 (0, 0))) ∧ Aside0 (wc.heap[gb108]? = some (.cells #[.int .i64 a0_0, .int .i64 0, .float .f64 0, .string (⟨#[]⟩ : ByteArray), (.slice none 0 0), (.slice none 0 0)] 31 (0, 0))) ∧ Aside0 (Below w.heap.size w wc))
  case first =>
   have H := HC15.out
   clear HC15
   by_cases c16 : a0_0 = 0
   ·
    rw [if_pos c16] at H
    have c16b0 : (a0_0 == 0) = true := beq_iff_eq.mpr c16
    have c16b1 : (a0_0 != 0) = false := bne_eq_false_iff_eq.mpr c16
    clear c16
    (first | rw [c16b0] | (simp only [i64_w, i32_w]; rw [c16b0]) | skip)
    as_aux_lemma =>
     have H' := Aside0.mk H
     clear H
     go_wp2
     go_meet
     case rel => exact ⟨_, ((a0_0 == 0)), (by first | rfl | (simp only [bytesLe_not]; done) | (simp; done) | (simp [*]; done)), H', ⟨by first | omega | exact Nat.le_refl _⟩, ⟨by (with_reducible repeat first | apply blk_drewN | apply blk_drew | apply blk_alloc); refine blk_far ?_ NB106_108.out _; (with_reducible repeat first | apply blk_drewN | apply blk_drew | apply blk_alloc); refine blk_far ?_ NB106_108.out _; (with_reducible repeat first | apply blk_drewN | apply blk_drew | apply blk_alloc); refine blk_far ?_ NB106_108.out _; (with_reducible repeat first | apply blk_drewN | apply blk_drew | apply blk_alloc); refine blk_far ?_ NB106_108.out _; (with_reducible repeat first | apply blk_drewN | apply blk_drew | apply blk_alloc); refine blk_far ?_ NB106_108.out _; (with_reducible repeat first | apply blk_drewN | apply blk_drew | apply blk_alloc); refine blk_far ?_ NB106_108.out _; (with_reducible repeat first | apply blk_drewN | apply blk_drew | apply blk_alloc); exact BK106.out⟩, ⟨by (with_reducible repeat first | apply blk_drewN | apply blk_drew | apply blk_alloc); refine blk_far ?_ NB107_108.out _; (with_reducible repeat first | apply blk_drewN | apply blk_drew | apply blk_alloc); refine blk_far ?_ NB107_108.out _; (with_reducible repeat first | apply blk_drewN | apply blk_drew | apply blk_alloc); refine blk_far ?_ NB107_108.out _; (with_reducible repeat first | apply blk_drewN | apply blk_drew | apply blk_alloc); refine blk_far ?_ NB107_108.out _; (with_reducible repeat first | apply blk_drewN | apply blk_drew | apply blk_alloc); refine blk_far ?_ NB107_108.out _; (with_reducible repeat first | apply blk_drewN | apply blk_drew | apply blk_alloc); refine blk_far ?_ NB107_108.out _; (with_reducible repeat first | apply blk_drewN | apply blk_drew | apply blk_alloc); exact BK107.out⟩, ⟨by (with_reducible repeat first | apply blk_drewN | apply blk_drew | apply blk_alloc); refine blk_put (cs := #[.int .i64 a0_0, .int .i64 0, .float .f64 0, .string (⟨#[]⟩ : ByteArray), .slice none 0 0, .slice none 0 0]) ?_ 5 _ rfl; (with_reducible repeat first | apply blk_drewN | apply blk_drew | apply blk_alloc); refine blk_put (cs := #[.int .i64 a0_0, .int .i64 0, .float .f64 0, .string (⟨#[]⟩ : ByteArray), .slice none 0 0, .slice none 0 0]) ?_ 4 _ rfl; (with_reducible repeat first | apply blk_drewN | apply blk_drew | apply blk_alloc); refine blk_put (cs := #[.int .i64 a0_0, .int .i64 0, .float .f64 0, .string (⟨#[]⟩ : ByteArray), .slice none 0 0, .slice none 0 0]) ?_ 3 _ rfl; (with_reducible repeat first | apply blk_drewN | apply blk_drew | apply blk_alloc); refine blk_put (cs := #[.int .i64 a0_0, .int .i64 0, .float .f64 0, .string (⟨#[]⟩ : ByteArray), .slice none 0 0, .slice none 0 0]) ?_ 2 _ rfl; (with_reducible repeat first | apply blk_drewN | apply blk_drew | apply blk_alloc); refine blk_put (cs := #[.int .i64 a0_0, .int .i64 0, .float .f64 0, .string (⟨#[]⟩ : ByteArray), .slice none 0 0, .slice none 0 0]) ?_ 1 _ rfl; (with_reducible repeat first | apply blk_drewN | apply blk_drew | apply blk_alloc); refine blk_put (cs := #[.int .i64 0, .int .i64 0, .float .f64 0, .string (⟨#[]⟩ : ByteArray), .slice none 0 0, .slice none 0 0]) ?_ 0 _ rfl; (with_reducible repeat first | apply blk_drewN | apply blk_drew | apply blk_alloc); exact BK108.out⟩, ⟨by repeat (first | (with_reducible first | exact HB.out | apply below_alloc | apply pw_below_drewN | apply below_drew1 | refine below_set ?_ GE106.out | refine below_set ?_ GE107.out | refine below_set ?_ GE108.out) | exact HB.out)⟩⟩
   ·
    rw [if_neg c16] at H
    have c16b0 : (a0_0 == 0) = false := beq_eq_false_iff_ne.mpr c16
    have c16b1 : (a0_0 != 0) = true := bne_iff_ne.mpr c16
    (first | rw [c16b0] | (simp only [i64_w, i32_w]; rw [c16b0]) | skip)
    by_cases c17 : a0_0 = 6
    ·
     rw [if_pos c17] at H
     have c17b0 : (a0_0 == 6) = true := beq_iff_eq.mpr c17
     have c17b1 : (a0_0 != 6) = false := bne_eq_false_iff_eq.mpr c17
     clear c17
     as_aux_lemma =>
      have H' := Aside0.mk H
      clear H
      go_wp2
      go_meet
      case rel => exact ⟨_, ((a0_0 == 6)), (by first | rfl | (simp only [bytesLe_not]; done) | (simp; done) | (simp [*]; done)), H', ⟨by first | omega | exact Nat.le_refl _⟩, ⟨by (with_reducible repeat first | apply blk_drewN | apply blk_drew | apply blk_alloc); refine blk_far ?_ NB106_108.out _; (with_reducible repeat first | apply blk_drewN | apply blk_drew | apply blk_alloc); refine blk_far ?_ NB106_108.out _; (with_reducible repeat first | apply blk_drewN | apply blk_drew | apply blk_alloc); refine blk_far ?_ NB106_108.out _; (with_reducible repeat first | apply blk_drewN | apply blk_drew | apply blk_alloc); refine blk_far ?_ NB106_108.out _; (with_reducible repeat first | apply blk_drewN | apply blk_drew | apply blk_alloc); refine blk_far ?_ NB106_108.out _; (with_reducible repeat first | apply blk_drewN | apply blk_drew | apply blk_alloc); refine blk_far ?_ NB106_108.out _; (with_reducible repeat first | apply blk_drewN | apply blk_drew | apply blk_alloc); exact BK106.out⟩, ⟨by (with_reducible repeat first | apply blk_drewN | apply blk_drew | apply blk_alloc); refine blk_far ?_ NB107_108.out _; (with_reducible repeat first | apply blk_drewN | apply blk_drew | apply blk_alloc); refine blk_far ?_ NB107_108.out _; (with_reducible repeat first | apply blk_drewN | apply blk_drew | apply blk_alloc); refine blk_far ?_ NB107_108.out _; (with_reducible repeat first | apply blk_drewN | apply blk_drew | apply blk_alloc); refine blk_far ?_ NB107_108.out _; (with_reducible repeat first | apply blk_drewN | apply blk_drew | apply blk_alloc); refine blk_far ?_ NB107_108.out _; (with_reducible repeat first | apply blk_drewN | apply blk_drew | apply blk_alloc); refine blk_far ?_ NB107_108.out _; (with_reducible repeat first | apply blk_drewN | apply blk_drew | apply blk_alloc); exact BK107.out⟩, ⟨by (with_reducible repeat first | apply blk_drewN | apply blk_drew | apply blk_alloc); refine blk_put (cs := #[.int .i64 a0_0, .int .i64 0, .float .f64 0, .string (⟨#[]⟩ : ByteArray), .slice none 0 0, .slice none 0 0]) ?_ 5 _ rfl; (with_reducible repeat first | apply blk_drewN | apply blk_drew | apply blk_alloc); refine blk_put (cs := #[.int .i64 a0_0, .int .i64 0, .float .f64 0, .string (⟨#[]⟩ : ByteArray), .slice none 0 0, .slice none 0 0]) ?_ 4 _ rfl; (with_reducible repeat first | apply blk_drewN | apply blk_drew | apply blk_alloc); refine blk_put (cs := #[.int .i64 a0_0, .int .i64 0, .float .f64 0, .string (⟨#[]⟩ : ByteArray), .slice none 0 0, .slice none 0 0]) ?_ 3 _ rfl; (with_reducible repeat first | apply blk_drewN | apply blk_drew | apply blk_alloc); refine blk_put (cs := #[.int .i64 a0_0, .int .i64 0, .float .f64 0, .string (⟨#[]⟩ : ByteArray), .slice none 0 0, .slice none 0 0]) ?_ 2 _ rfl; (with_reducible repeat first | apply blk_drewN | apply blk_drew | apply blk_alloc); refine blk_put (cs := #[.int .i64 a0_0, .int .i64 0, .float .f64 0, .string (⟨#[]⟩ : ByteArray), .slice none 0 0, .slice none 0 0]) ?_ 1 _ rfl; (with_reducible repeat first | apply blk_drewN | apply blk_drew | apply blk_alloc); refine blk_put (cs := #[.int .i64 0, .int .i64 0, .float .f64 0, .string (⟨#[]⟩ : ByteArray), .slice none 0 0, .slice none 0 0]) ?_ 0 _ rfl; (with_reducible repeat first | apply blk_drewN | apply blk_drew | apply blk_alloc); exact BK108.out⟩, ⟨by repeat (first | (with_reducible first | exact HB.out | apply below_alloc | apply pw_below_drewN | apply below_drew1 | refine below_set ?_ GE106.out | refine below_set ?_ GE107.out | refine below_set ?_ GE108.out) | exact HB.out)⟩⟩
    ·
     rw [if_neg c17] at H
     have c17b0 : (a0_0 == 6) = false := beq_eq_false_iff_ne.mpr c17
     have c17b1 : (a0_0 != 6) = true := bne_iff_ne.mpr c17
     as_aux_lemma =>
      have H' := Aside0.mk H
      clear H
      go_wp2
      go_meet
      case rel => exact ⟨_, ((a0_0 == 7)), (by first | rfl | (simp only [bytesLe_not]; done) | (simp; done) | (simp [*]; done)), H', ⟨by first | omega | exact Nat.le_refl _⟩, ⟨by (with_reducible repeat first | apply blk_drewN | apply blk_drew | apply blk_alloc); refine blk_far ?_ NB106_108.out _; (with_reducible repeat first | apply blk_drewN | apply blk_drew | apply blk_alloc); refine blk_far ?_ NB106_108.out _; (with_reducible repeat first | apply blk_drewN | apply blk_drew | apply blk_alloc); refine blk_far ?_ NB106_108.out _; (with_reducible repeat first | apply blk_drewN | apply blk_drew | apply blk_alloc); refine blk_far ?_ NB106_108.out _; (with_reducible repeat first | apply blk_drewN | apply blk_drew | apply blk_alloc); refine blk_far ?_ NB106_108.out _; (with_reducible repeat first | apply blk_drewN | apply blk_drew | apply blk_alloc); refine blk_far ?_ NB106_108.out _; (with_reducible repeat first | apply blk_drewN | apply blk_drew | apply blk_alloc); exact BK106.out⟩, ⟨by (with_reducible repeat first | apply blk_drewN | apply blk_drew | apply blk_alloc); refine blk_far ?_ NB107_108.out _; (with_reducible repeat first | apply blk_drewN | apply blk_drew | apply blk_alloc); refine blk_far ?_ NB107_108.out _; (with_reducible repeat first | apply blk_drewN | apply blk_drew | apply blk_alloc); refine blk_far ?_ NB107_108.out _; (with_reducible repeat first | apply blk_drewN | apply blk_drew | apply blk_alloc); refine blk_far ?_ NB107_108.out _; (with_reducible repeat first | apply blk_drewN | apply blk_drew | apply blk_alloc); refine blk_far ?_ NB107_108.out _; (with_reducible repeat first | apply blk_drewN | apply blk_drew | apply blk_alloc); refine blk_far ?_ NB107_108.out _; (with_reducible repeat first | apply blk_drewN | apply blk_drew | apply blk_alloc); exact BK107.out⟩, ⟨by (with_reducible repeat first | apply blk_drewN | apply blk_drew | apply blk_alloc); refine blk_put (cs := #[.int .i64 a0_0, .int .i64 0, .float .f64 0, .string (⟨#[]⟩ : ByteArray), .slice none 0 0, .slice none 0 0]) ?_ 5 _ rfl; (with_reducible repeat first | apply blk_drewN | apply blk_drew | apply blk_alloc); refine blk_put (cs := #[.int .i64 a0_0, .int .i64 0, .float .f64 0, .string (⟨#[]⟩ : ByteArray), .slice none 0 0, .slice none 0 0]) ?_ 4 _ rfl; (with_reducible repeat first | apply blk_drewN | apply blk_drew | apply blk_alloc); refine blk_put (cs := #[.int .i64 a0_0, .int .i64 0, .float .f64 0, .string (⟨#[]⟩ : ByteArray), .slice none 0 0, .slice none 0 0]) ?_ 3 _ rfl; (with_reducible repeat first | apply blk_drewN | apply blk_drew | apply blk_alloc); refine blk_put (cs := #[.int .i64 a0_0, .int .i64 0, .float .f64 0, .string (⟨#[]⟩ : ByteArray), .slice none 0 0, .slice none 0 0]) ?_ 2 _ rfl; (with_reducible repeat first | apply blk_drewN | apply blk_drew | apply blk_alloc); refine blk_put (cs := #[.int .i64 a0_0, .int .i64 0, .float .f64 0, .string (⟨#[]⟩ : ByteArray), .slice none 0 0, .slice none 0 0]) ?_ 1 _ rfl; (with_reducible repeat first | apply blk_drewN | apply blk_drew | apply blk_alloc); refine blk_put (cs := #[.int .i64 0, .int .i64 0, .float .f64 0, .string (⟨#[]⟩ : ByteArray), .slice none 0 0, .slice none 0 0]) ?_ 0 _ rfl; (with_reducible repeat first | apply blk_drewN | apply blk_drew | apply blk_alloc); exact BK108.out⟩, ⟨by repeat (first | (with_reducible first | exact HB.out | apply below_alloc | apply pw_below_drewN | apply below_drew1 | refine below_set ?_ GE106.out | refine below_set ?_ GE107.out | refine below_set ?_ GE108.out) | exact HB.out)⟩⟩
  case rest =>
   clear HC15
   try clear c1
   try clear c11
   try clear c12
   try clear c16
   try clear c16b0
   try clear c16b1
   try clear c17
   try clear c17b0
   try clear c17b1
   try clear c7
   try clear p2
   obtain ⟨kq, x16_14, rfl, HA, HJ14, BK106, BK107, BK108, HB⟩ := hcut
   cases kq with
   | zero => exact absurd HA.out (by simp [spec_right.j0])
   | succ kj14 =>
    have H := HA.out
    clear HA
    simp only [spec_right.j0] at H
    by_cases c18 : x16_14 = true
    ·
     subst c18
     have H1 : (spec_right.j2 kj14 a1 a0_0 a0_1 a0_2 a0_3 l0_4 l0_5 a0_0 a0_1 a0_2 a0_3 a0_0 0 0 (⟨#[]⟩ : ByteArray)) = some r := by rw [if_pos rfl] at H; exact H
     clear H
     have H := H1
     clear H1
     as_aux_lemma =>
      have H' := Aside0.mk H
      clear H
      go_wp2
      go_meet
      case rel => exact ⟨_, (0), (0), ((⟨#[]⟩ : ByteArray)), H', ⟨by have := HJ14.out; first | omega | exact Nat.le_refl _⟩, ⟨by (with_reducible repeat first | apply blk_drewN | apply blk_drew | apply blk_alloc); exact BK106.out⟩, ⟨by (with_reducible repeat first | apply blk_drewN | apply blk_drew | apply blk_alloc); exact BK107.out⟩, ⟨by (with_reducible repeat first | apply blk_drewN | apply blk_drew | apply blk_alloc); exact BK108.out⟩, ⟨by repeat (first | (with_reducible first | exact HB.out | apply below_alloc | apply pw_below_drewN | apply below_drew1 | refine below_set ?_ GE106.out | refine below_set ?_ GE107.out | refine below_set ?_ GE108.out) | exact HB.out)⟩⟩
    ·
     replace c18 := Bool.eq_false_iff.mpr c18
     subst c18
     have H1 : (if a0_0 = 1 then (spec_right.j2 kj14 a1 a0_0 a0_1 a0_2 a0_3 l0_4 l0_5 a0_0 a0_1 a0_2 a0_3 a0_0 (Go.bits .and .i64 a0_1 1) 0 (⟨#[]⟩ : ByteArray)) else (if a0_0 = 2 then (spec_right.j1 kj14 a1 a0_0 (a0_0 == 2) a0_0 a0_1 a0_2 a0_3 l0_4 l0_5 a0_0 a0_1 a0_2 a0_3 a0_0 0 0 (⟨#[]⟩ : ByteArray)) else (spec_right.j1 kj14 a1 a0_0 (a0_0 == 3) a0_0 a0_1 a0_2 a0_3 l0_4 l0_5 a0_0 a0_1 a0_2 a0_3 a0_0 0 0 (⟨#[]⟩ : ByteArray)))) = some r := by rw [if_neg (show ¬ (false = true) by decide)] at H; exact H
     clear H
     have H := H1
     clear H1
     by_cases c19 : a0_0 = 1
     ·
      rw [if_pos c19] at H
      have c19b0 : (a0_0 == 1) = true := beq_iff_eq.mpr c19
      have c19b1 : (a0_0 != 1) = false := bne_eq_false_iff_eq.mpr c19
      clear c19
      as_aux_lemma =>
       have H' := Aside0.mk H
       clear H
       have hnb20 := NB106_107.out
       have hnc20 := NB107_106.out
       have hnb21 := NB106_108.out
       have hnc21 := NB108_106.out
       have hcz22_0 : wc.cell? ⟨gb106, 0, none⟩ = some (.int .i64 a0_0) := (blk_cell BK106.out 0).trans rfl
       have hcz22_1 : wc.cell? ⟨gb106, 1, none⟩ = some (.int .i64 a0_1) := (blk_cell BK106.out 1).trans rfl
       have hcz22_2 : wc.cell? ⟨gb106, 2, none⟩ = some (.float .f64 a0_2) := (blk_cell BK106.out 2).trans rfl
       have hcz22_3 : wc.cell? ⟨gb106, 3, none⟩ = some (.string a0_3) := (blk_cell BK106.out 3).trans rfl
       have hcz22_4 : wc.cell? ⟨gb106, 4, none⟩ = some (.slice A0_4 l0_4.length c0_4) := (blk_cell BK106.out 4).trans rfl
       have hcz22_5 : wc.cell? ⟨gb106, 5, none⟩ = some (.slice A0_5 l0_5.length c0_5) := (blk_cell BK106.out 5).trans rfl
       have hfz22_0 := blk_frozen BK106.out 0
       have hfz22_1 := blk_frozen BK106.out 1
       have hfz22_2 := blk_frozen BK106.out 2
       have hfz22_3 := blk_frozen BK106.out 3
       have hfz22_4 := blk_frozen BK106.out 4
       have hfz22_5 := blk_frozen BK106.out 5
       have hnb23 := NB108_107.out
       have hnc23 := NB107_108.out
       have hcz24_0 : wc.cell? ⟨gb108, 0, none⟩ = some (.int .i64 a0_0) := (blk_cell BK108.out 0).trans rfl
       have hcz24_1 : wc.cell? ⟨gb108, 1, none⟩ = some (.int .i64 0) := (blk_cell BK108.out 1).trans rfl
       have hcz24_2 : wc.cell? ⟨gb108, 2, none⟩ = some (.float .f64 0) := (blk_cell BK108.out 2).trans rfl
       have hcz24_3 : wc.cell? ⟨gb108, 3, none⟩ = some (.string (⟨#[]⟩ : ByteArray)) := (blk_cell BK108.out 3).trans rfl
       have hcz24_4 : wc.cell? ⟨gb108, 4, none⟩ = some (.slice none 0 0) := (blk_cell BK108.out 4).trans rfl
       have hcz24_5 : wc.cell? ⟨gb108, 5, none⟩ = some (.slice none 0 0) := (blk_cell BK108.out 5).trans rfl
       have hfz24_0 := blk_frozen BK108.out 0
       have hfz24_1 := blk_frozen BK108.out 1
       have hfz24_2 := blk_frozen BK108.out 2
       have hfz24_3 := blk_frozen BK108.out 3
       have hfz24_4 := blk_frozen BK108.out 4
       have hfz24_5 := blk_frozen BK108.out 5
       go_wp2
       go_meet
       case rel => exact ⟨_, (Go.bits .and .i64 a0_1 1), (0), ((⟨#[]⟩ : ByteArray)), H', ⟨by have := HJ14.out; first | omega | exact Nat.le_refl _⟩, ⟨by (with_reducible repeat first | apply blk_drewN | apply blk_drew | apply blk_alloc); refine blk_far ?_ NB106_108.out _; (with_reducible repeat first | apply blk_drewN | apply blk_drew | apply blk_alloc); exact BK106.out⟩, ⟨by (with_reducible repeat first | apply blk_drewN | apply blk_drew | apply blk_alloc); refine blk_far ?_ NB107_108.out _; (with_reducible repeat first | apply blk_drewN | apply blk_drew | apply blk_alloc); exact BK107.out⟩, ⟨by (with_reducible repeat first | apply blk_drewN | apply blk_drew | apply blk_alloc); refine blk_put (cs := #[.int .i64 a0_0, .int .i64 0, .float .f64 0, .string (⟨#[]⟩ : ByteArray), .slice none 0 0, .slice none 0 0]) ?_ 1 _ rfl; (with_reducible repeat first | apply blk_drewN | apply blk_drew | apply blk_alloc); exact BK108.out⟩, ⟨by repeat (first | (with_reducible first | exact HB.out | apply below_alloc | apply pw_below_drewN | apply below_drew1 | refine below_set ?_ GE106.out | refine below_set ?_ GE107.out | refine below_set ?_ GE108.out) | exact HB.out)⟩⟩
     ·
      rw [if_neg c19] at H
      have c19b0 : (a0_0 == 1) = false := beq_eq_false_iff_ne.mpr c19
      have c19b1 : (a0_0 != 1) = true := bne_iff_ne.mpr c19
      have HC25 := Aside0.mk H
      clear H
      go_upto_if 26 with (fail)
      go_cut [26] (fun v26 wc => ∃ (kq : Nat) (x26_24 : Bool), v26 = .bool x26_24 ∧ Aside0 (spec_right.j1 kq a1 a0_0 x26_24 a0_0 a0_1 a0_2 a0_3 l0_4 l0_5 a0_0 a0_1 a0_2 a0_3 a0_0 0 0 (⟨#[]⟩ : ByteArray) = some r) ∧ Aside0 (kq ≤ kj14) ∧ Aside0 (wc.heap[gb106]? = some (.cells #[.int .i64 a0_0, .int .i64 a0_1, .float .f64 a0_2, .string a0_3, (.slice A0_4 l0_4.length c0_4), (.slice A0_5 l0_5.length c0_5)] 31 (0, 0))) ∧ Aside0 (wc.heap[gb107]? = some (.cells #[.int .i64 a0_0, .int .i64 a0_1, .float .f64 a0_2, .string a0_3, (.slice none 0 0), (.slice none 0 0)] 31 (0, 0))) ∧ Aside0 (wc.heap[gb108]? = some (.cells #[.int .i64 a0_0, .int .i64 0, .float .f64 0, .string (⟨#[]⟩ : ByteArray), (.slice none 0 0), (.slice none 0 0)] 31 (0, 0))) ∧ Aside0 (Below w.heap.size w wc))
      case first =>
       have H := HC25.out
       clear HC25
       by_cases c26 : a0_0 = 2
       ·
        rw [if_pos c26] at H
        have c26b0 : (a0_0 == 2) = true := beq_iff_eq.mpr c26
        have c26b1 : (a0_0 != 2) = false := bne_eq_false_iff_eq.mpr c26
        clear c26
        (first | rw [c26b0] | (simp only [i64_w, i32_w]; rw [c26b0]) | skip)
        as_aux_lemma =>
         have H' := Aside0.mk H
         clear H
         go_wp2
         go_meet
         case rel => exact ⟨_, ((a0_0 == 2)), (by first | rfl | (simp only [bytesLe_not]; done) | (simp; done) | (simp [*]; done)), H', ⟨by have := HJ14.out; first | omega | exact Nat.le_refl _⟩, ⟨by (with_reducible repeat first | apply blk_drewN | apply blk_drew | apply blk_alloc); exact BK106.out⟩, ⟨by (with_reducible repeat first | apply blk_drewN | apply blk_drew | apply blk_alloc); exact BK107.out⟩, ⟨by (with_reducible repeat first | apply blk_drewN | apply blk_drew | apply blk_alloc); exact BK108.out⟩, ⟨by repeat (first | (with_reducible first | exact HB.out | apply below_alloc | apply pw_below_drewN | apply below_drew1 | refine below_set ?_ GE106.out | refine below_set ?_ GE107.out | refine below_set ?_ GE108.out) | exact HB.out)⟩⟩
       ·
        rw [if_neg c26] at H
        have c26b0 : (a0_0 == 2) = false := beq_eq_false_iff_ne.mpr c26
        have c26b1 : (a0_0 != 2) = true := bne_iff_ne.mpr c26
        (first | rw [c26b0] | (simp only [i64_w, i32_w]; rw [c26b0]) | skip)
        as_aux_lemma =>
         have H' := Aside0.mk H
         clear H
         go_wp2
         go_meet
         case rel => exact ⟨_, ((a0_0 == 3)), (by first | rfl | (simp only [bytesLe_not]; done) | (simp; done) | (simp [*]; done)), H', ⟨by have := HJ14.out; first | omega | exact Nat.le_refl _⟩, ⟨by (with_reducible repeat first | apply blk_drewN | apply blk_drew | apply blk_alloc); exact BK106.out⟩, ⟨by (with_reducible repeat first | apply blk_drewN | apply blk_drew | apply blk_alloc); exact BK107.out⟩, ⟨by (with_reducible repeat first | apply blk_drewN | apply blk_drew | apply blk_alloc); exact BK108.out⟩, ⟨by repeat (first | (with_reducible first | exact HB.out | apply below_alloc | apply pw_below_drewN | apply below_drew1 | refine below_set ?_ GE106.out | refine below_set ?_ GE107.out | refine below_set ?_ GE108.out) | exact HB.out)⟩⟩
      case rest =>
       clear HC25
       try clear c1
       try clear c11
       try clear c12
       try clear c16
       try clear c16b0
       try clear c16b1
       try clear c17
       try clear c17b0
       try clear c17b1
       try clear c18
       try clear c19
       try clear c19b0
       try clear c19b1
       try clear c2
       try clear c20
       try clear c21
       try clear c23
       try clear c26
       try clear c26b0
       try clear c26b1
       try clear c7
       try clear p2
       try clear p2
       obtain ⟨kq, x26_24, rfl, HA, HJ24, BK106, BK107, BK108, HB⟩ := hcut
       cases kq with
       | zero => exact absurd HA.out (by simp [spec_right.j1])
       | succ kj24 =>
        have H := HA.out
        clear HA
        simp only [spec_right.j1] at H
        by_cases c27 : x26_24 = true
        ·
         subst c27
         have H1 : (spec_right.j2 kj24 a1 a0_0 a0_1 a0_2 a0_3 l0_4 l0_5 a0_0 a0_1 a0_2 a0_3 a0_0 a0_1 0 (⟨#[]⟩ : ByteArray)) = some r := by rw [if_pos rfl] at H; exact H
         clear H
         have H := H1
         clear H1
         as_aux_lemma =>
          have H' := Aside0.mk H
          clear H
          have hnb28 := NB106_107.out
          have hnc28 := NB107_106.out
          have hnb29 := NB106_108.out
          have hnc29 := NB108_106.out
          have hcz30_0 : wc.cell? ⟨gb106, 0, none⟩ = some (.int .i64 a0_0) := (blk_cell BK106.out 0).trans rfl
          have hcz30_1 : wc.cell? ⟨gb106, 1, none⟩ = some (.int .i64 a0_1) := (blk_cell BK106.out 1).trans rfl
          have hcz30_2 : wc.cell? ⟨gb106, 2, none⟩ = some (.float .f64 a0_2) := (blk_cell BK106.out 2).trans rfl
          have hcz30_3 : wc.cell? ⟨gb106, 3, none⟩ = some (.string a0_3) := (blk_cell BK106.out 3).trans rfl
          have hcz30_4 : wc.cell? ⟨gb106, 4, none⟩ = some (.slice A0_4 l0_4.length c0_4) := (blk_cell BK106.out 4).trans rfl
          have hcz30_5 : wc.cell? ⟨gb106, 5, none⟩ = some (.slice A0_5 l0_5.length c0_5) := (blk_cell BK106.out 5).trans rfl
          have hfz30_0 := blk_frozen BK106.out 0
          have hfz30_1 := blk_frozen BK106.out 1
          have hfz30_2 := blk_frozen BK106.out 2
          have hfz30_3 := blk_frozen BK106.out 3
          have hfz30_4 := blk_frozen BK106.out 4
          have hfz30_5 := blk_frozen BK106.out 5
          have hnb31 := NB108_107.out
          have hnc31 := NB107_108.out
          have hcz32_0 : wc.cell? ⟨gb108, 0, none⟩ = some (.int .i64 a0_0) := (blk_cell BK108.out 0).trans rfl
          have hcz32_1 : wc.cell? ⟨gb108, 1, none⟩ = some (.int .i64 0) := (blk_cell BK108.out 1).trans rfl
          have hcz32_2 : wc.cell? ⟨gb108, 2, none⟩ = some (.float .f64 0) := (blk_cell BK108.out 2).trans rfl
          have hcz32_3 : wc.cell? ⟨gb108, 3, none⟩ = some (.string (⟨#[]⟩ : ByteArray)) := (blk_cell BK108.out 3).trans rfl
          have hcz32_4 : wc.cell? ⟨gb108, 4, none⟩ = some (.slice none 0 0) := (blk_cell BK108.out 4).trans rfl
          have hcz32_5 : wc.cell? ⟨gb108, 5, none⟩ = some (.slice none 0 0) := (blk_cell BK108.out 5).trans rfl
          have hfz32_0 := blk_frozen BK108.out 0
          have hfz32_1 := blk_frozen BK108.out 1
          have hfz32_2 := blk_frozen BK108.out 2
          have hfz32_3 := blk_frozen BK108.out 3
          have hfz32_4 := blk_frozen BK108.out 4
          have hfz32_5 := blk_frozen BK108.out 5
          go_wp2
          go_meet
          case rel => exact ⟨_, (a0_1), (0), ((⟨#[]⟩ : ByteArray)), H', ⟨by have := HJ14.out; have := HJ24.out; first | omega | exact Nat.le_refl _⟩, ⟨by (with_reducible repeat first | apply blk_drewN | apply blk_drew | apply blk_alloc); refine blk_far ?_ NB106_108.out _; (with_reducible repeat first | apply blk_drewN | apply blk_drew | apply blk_alloc); exact BK106.out⟩, ⟨by (with_reducible repeat first | apply blk_drewN | apply blk_drew | apply blk_alloc); refine blk_far ?_ NB107_108.out _; (with_reducible repeat first | apply blk_drewN | apply blk_drew | apply blk_alloc); exact BK107.out⟩, ⟨by (with_reducible repeat first | apply blk_drewN | apply blk_drew | apply blk_alloc); refine blk_put (cs := #[.int .i64 a0_0, .int .i64 0, .float .f64 0, .string (⟨#[]⟩ : ByteArray), .slice none 0 0, .slice none 0 0]) ?_ 1 _ rfl; (with_reducible repeat first | apply blk_drewN | apply blk_drew | apply blk_alloc); exact BK108.out⟩, ⟨by repeat (first | (with_reducible first | exact HB.out | apply below_alloc | apply pw_below_drewN | apply below_drew1 | refine below_set ?_ GE106.out | refine below_set ?_ GE107.out | refine below_set ?_ GE108.out) | exact HB.out)⟩⟩
        ·
         replace c27 := Bool.eq_false_iff.mpr c27
         subst c27
         have H1 : (if a0_0 = 4 then (spec_right.j2 kj24 a1 a0_0 a0_1 a0_2 a0_3 l0_4 l0_5 a0_0 a0_1 a0_2 a0_3 a0_0 0 a0_2 (⟨#[]⟩ : ByteArray)) else (if a0_0 = 5 then (spec_right.j2 kj24 a1 a0_0 a0_1 a0_2 a0_3 l0_4 l0_5 a0_0 a0_1 a0_2 a0_3 a0_0 0 0 a0_3) else (some false))) = some r := by rw [if_neg (show ¬ (false = true) by decide)] at H; exact H
         clear H
         have H := H1
         clear H1
         by_cases c33 : a0_0 = 4
         ·
          rw [if_pos c33] at H
          have c33b0 : (a0_0 == 4) = true := beq_iff_eq.mpr c33
          have c33b1 : (a0_0 != 4) = false := bne_eq_false_iff_eq.mpr c33
          clear c33
          as_aux_lemma =>
           have H' := Aside0.mk H
           clear H
           have hnb34 := NB106_107.out
           have hnc34 := NB107_106.out
           have hnb35 := NB106_108.out
           have hnc35 := NB108_106.out
           have hcz36_0 : wc.cell? ⟨gb106, 0, none⟩ = some (.int .i64 a0_0) := (blk_cell BK106.out 0).trans rfl
           have hcz36_1 : wc.cell? ⟨gb106, 1, none⟩ = some (.int .i64 a0_1) := (blk_cell BK106.out 1).trans rfl
           have hcz36_2 : wc.cell? ⟨gb106, 2, none⟩ = some (.float .f64 a0_2) := (blk_cell BK106.out 2).trans rfl
           have hcz36_3 : wc.cell? ⟨gb106, 3, none⟩ = some (.string a0_3) := (blk_cell BK106.out 3).trans rfl
           have hcz36_4 : wc.cell? ⟨gb106, 4, none⟩ = some (.slice A0_4 l0_4.length c0_4) := (blk_cell BK106.out 4).trans rfl
           have hcz36_5 : wc.cell? ⟨gb106, 5, none⟩ = some (.slice A0_5 l0_5.length c0_5) := (blk_cell BK106.out 5).trans rfl
           have hfz36_0 := blk_frozen BK106.out 0
           have hfz36_1 := blk_frozen BK106.out 1
           have hfz36_2 := blk_frozen BK106.out 2
           have hfz36_3 := blk_frozen BK106.out 3
           have hfz36_4 := blk_frozen BK106.out 4
           have hfz36_5 := blk_frozen BK106.out 5
           have hnb37 := NB108_107.out
           have hnc37 := NB107_108.out
           have hcz38_0 : wc.cell? ⟨gb108, 0, none⟩ = some (.int .i64 a0_0) := (blk_cell BK108.out 0).trans rfl
           have hcz38_1 : wc.cell? ⟨gb108, 1, none⟩ = some (.int .i64 0) := (blk_cell BK108.out 1).trans rfl
           have hcz38_2 : wc.cell? ⟨gb108, 2, none⟩ = some (.float .f64 0) := (blk_cell BK108.out 2).trans rfl
           have hcz38_3 : wc.cell? ⟨gb108, 3, none⟩ = some (.string (⟨#[]⟩ : ByteArray)) := (blk_cell BK108.out 3).trans rfl
           have hcz38_4 : wc.cell? ⟨gb108, 4, none⟩ = some (.slice none 0 0) := (blk_cell BK108.out 4).trans rfl
           have hcz38_5 : wc.cell? ⟨gb108, 5, none⟩ = some (.slice none 0 0) := (blk_cell BK108.out 5).trans rfl
           have hfz38_0 := blk_frozen BK108.out 0
           have hfz38_1 := blk_frozen BK108.out 1
           have hfz38_2 := blk_frozen BK108.out 2
           have hfz38_3 := blk_frozen BK108.out 3
           have hfz38_4 := blk_frozen BK108.out 4
           have hfz38_5 := blk_frozen BK108.out 5
           go_wp2
           go_meet
           case rel => exact ⟨_, (0), (a0_2), ((⟨#[]⟩ : ByteArray)), H', ⟨by have := HJ14.out; have := HJ24.out; first | omega | exact Nat.le_refl _⟩, ⟨by (with_reducible repeat first | apply blk_drewN | apply blk_drew | apply blk_alloc); refine blk_far ?_ NB106_108.out _; (with_reducible repeat first | apply blk_drewN | apply blk_drew | apply blk_alloc); exact BK106.out⟩, ⟨by (with_reducible repeat first | apply blk_drewN | apply blk_drew | apply blk_alloc); refine blk_far ?_ NB107_108.out _; (with_reducible repeat first | apply blk_drewN | apply blk_drew | apply blk_alloc); exact BK107.out⟩, ⟨by (with_reducible repeat first | apply blk_drewN | apply blk_drew | apply blk_alloc); refine blk_put (cs := #[.int .i64 a0_0, .int .i64 0, .float .f64 0, .string (⟨#[]⟩ : ByteArray), .slice none 0 0, .slice none 0 0]) ?_ 2 _ rfl; (with_reducible repeat first | apply blk_drewN | apply blk_drew | apply blk_alloc); exact BK108.out⟩, ⟨by repeat (first | (with_reducible first | exact HB.out | apply below_alloc | apply pw_below_drewN | apply below_drew1 | refine below_set ?_ GE106.out | refine below_set ?_ GE107.out | refine below_set ?_ GE108.out) | exact HB.out)⟩⟩
         ·
          rw [if_neg c33] at H
          have c33b0 : (a0_0 == 4) = false := beq_eq_false_iff_ne.mpr c33
          have c33b1 : (a0_0 != 4) = true := bne_iff_ne.mpr c33
          by_cases c39 : a0_0 = 5
          ·
           rw [if_pos c39] at H
           have c39b0 : (a0_0 == 5) = true := beq_iff_eq.mpr c39
           have c39b1 : (a0_0 != 5) = false := bne_eq_false_iff_eq.mpr c39
           clear c39
           as_aux_lemma =>
            have H' := Aside0.mk H
            clear H
            have hnb40 := NB106_107.out
            have hnc40 := NB107_106.out
            have hnb41 := NB106_108.out
            have hnc41 := NB108_106.out
            have hcz42_0 : wc.cell? ⟨gb106, 0, none⟩ = some (.int .i64 a0_0) := (blk_cell BK106.out 0).trans rfl
            have hcz42_1 : wc.cell? ⟨gb106, 1, none⟩ = some (.int .i64 a0_1) := (blk_cell BK106.out 1).trans rfl
            have hcz42_2 : wc.cell? ⟨gb106, 2, none⟩ = some (.float .f64 a0_2) := (blk_cell BK106.out 2).trans rfl
            have hcz42_3 : wc.cell? ⟨gb106, 3, none⟩ = some (.string a0_3) := (blk_cell BK106.out 3).trans rfl
            have hcz42_4 : wc.cell? ⟨gb106, 4, none⟩ = some (.slice A0_4 l0_4.length c0_4) := (blk_cell BK106.out 4).trans rfl
            have hcz42_5 : wc.cell? ⟨gb106, 5, none⟩ = some (.slice A0_5 l0_5.length c0_5) := (blk_cell BK106.out 5).trans rfl
            have hfz42_0 := blk_frozen BK106.out 0
            have hfz42_1 := blk_frozen BK106.out 1
            have hfz42_2 := blk_frozen BK106.out 2
            have hfz42_3 := blk_frozen BK106.out 3
            have hfz42_4 := blk_frozen BK106.out 4
            have hfz42_5 := blk_frozen BK106.out 5
            have hnb43 := NB108_107.out
            have hnc43 := NB107_108.out
            have hcz44_0 : wc.cell? ⟨gb108, 0, none⟩ = some (.int .i64 a0_0) := (blk_cell BK108.out 0).trans rfl
            have hcz44_1 : wc.cell? ⟨gb108, 1, none⟩ = some (.int .i64 0) := (blk_cell BK108.out 1).trans rfl
            have hcz44_2 : wc.cell? ⟨gb108, 2, none⟩ = some (.float .f64 0) := (blk_cell BK108.out 2).trans rfl
            have hcz44_3 : wc.cell? ⟨gb108, 3, none⟩ = some (.string (⟨#[]⟩ : ByteArray)) := (blk_cell BK108.out 3).trans rfl
            have hcz44_4 : wc.cell? ⟨gb108, 4, none⟩ = some (.slice none 0 0) := (blk_cell BK108.out 4).trans rfl
            have hcz44_5 : wc.cell? ⟨gb108, 5, none⟩ = some (.slice none 0 0) := (blk_cell BK108.out 5).trans rfl
            have hfz44_0 := blk_frozen BK108.out 0
            have hfz44_1 := blk_frozen BK108.out 1
            have hfz44_2 := blk_frozen BK108.out 2
            have hfz44_3 := blk_frozen BK108.out 3
            have hfz44_4 := blk_frozen BK108.out 4
            have hfz44_5 := blk_frozen BK108.out 5
            go_wp2
            go_meet
            case rel => exact ⟨_, (0), (0), (a0_3), H', ⟨by have := HJ14.out; have := HJ24.out; first | omega | exact Nat.le_refl _⟩, ⟨by (with_reducible repeat first | apply blk_drewN | apply blk_drew | apply blk_alloc); refine blk_far ?_ NB106_108.out _; (with_reducible repeat first | apply blk_drewN | apply blk_drew | apply blk_alloc); exact BK106.out⟩, ⟨by (with_reducible repeat first | apply blk_drewN | apply blk_drew | apply blk_alloc); refine blk_far ?_ NB107_108.out _; (with_reducible repeat first | apply blk_drewN | apply blk_drew | apply blk_alloc); exact BK107.out⟩, ⟨by (with_reducible repeat first | apply blk_drewN | apply blk_drew | apply blk_alloc); refine blk_put (cs := #[.int .i64 a0_0, .int .i64 0, .float .f64 0, .string (⟨#[]⟩ : ByteArray), .slice none 0 0, .slice none 0 0]) ?_ 3 _ rfl; (with_reducible repeat first | apply blk_drewN | apply blk_drew | apply blk_alloc); exact BK108.out⟩, ⟨by repeat (first | (with_reducible first | exact HB.out | apply below_alloc | apply pw_below_drewN | apply below_drew1 | refine below_set ?_ GE106.out | refine below_set ?_ GE107.out | refine below_set ?_ GE108.out) | exact HB.out)⟩⟩
          ·
           rw [if_neg c39] at H
           have c39b0 : (a0_0 == 5) = false := beq_eq_false_iff_ne.mpr c39
           have c39b1 : (a0_0 != 5) = true := bne_iff_ne.mpr c39
           as_aux_lemma =>
            obtain rfl := Option.some.inj H
            go_wp2
            go_ret
            exact ⟨by first | rfl | (simp [errW_none, errW_some] <;> rfl) | (simp [*, errW_none, errW_some] <;> rfl), by repeat (first | (with_reducible first | exact HB.out | apply below_alloc | apply pw_below_drewN | apply below_drew1 | refine below_set ?_ GE106.out | refine below_set ?_ GE107.out | refine below_set ?_ GE108.out) | exact HB.out)⟩
 case rest =>
  clear HC3
  try clear c1
  try clear c11
  try clear c12
  try clear c16
  try clear c16b0
  try clear c16b1
  try clear c17
  try clear c17b0
  try clear c17b1
  try clear c18
  try clear c19
  try clear c19b0
  try clear c19b1
  try clear c2
  try clear c20
  try clear c21
  try clear c23
  try clear c26
  try clear c26b0
  try clear c26b1
  try clear c27
  try clear c28
  try clear c29
  try clear c3
  try clear c31
  try clear c33
  try clear c33b0
  try clear c33b1
  try clear c34
  try clear c35
  try clear c37
  try clear c39
  try clear c39b0
  try clear c39b1
  try clear c4
  try clear c40
  try clear c41
  try clear c43
  try clear c7
  try clear p2
  try clear p2
  obtain ⟨kq, x109001_2, x109002_2, x109003_2, HA, HJ2, BK106, BK107, BK108, HB⟩ := hcut
  cases kq with
  | zero => exact absurd HA.out (by simp [spec_right.j2])
  | succ kj2 =>
   have H := HA.out
   clear HA
   simp only [spec_right.j2] at H
   have HC45 := Aside0.mk H
   clear H
   go_upto_region 18 with (fail)
   go_cut [85] (fun v85 wc => ∃ (kq : Nat) (x85_44 : Bool), v85 = .bool x85_44 ∧ Aside0 (spec_right.j3 kq a1 x85_44 a0_0 a0_1 a0_2 a0_3 l0_4 l0_5 = some r) ∧ Aside0 (kq ≤ kj2) ∧ Aside0 (wc.heap[gb106]? = some (.cells #[.int .i64 a0_0, .int .i64 a0_1, .float .f64 a0_2, .string a0_3, (.slice A0_4 l0_4.length c0_4), (.slice A0_5 l0_5.length c0_5)] 31 (0, 0))) ∧ Aside0 (wc.heap[gb107]? = some (.cells #[.int .i64 a0_0, .int .i64 a0_1, .float .f64 a0_2, .string a0_3, (.slice none 0 0), (.slice none 0 0)] 31 (0, 0))) ∧ Aside0 (wc.heap[gb108]? = some (.cells #[.int .i64 a0_0, .int .i64 x109001_2, .float .f64 x109002_2, .string x109003_2, (.slice none 0 0), (.slice none 0 0)] 31 (0, 0))) ∧ Aside0 (Below w.heap.size w wc))
   case first =>
    have H := HC45.out
    clear HC45
    replace H := Option.bind_eq_some_iff.mp H
    obtain ⟨t109, A460, H⟩ := H
    replace H : (if t109 = true then (if (a0_3.size : Int) > 300 then (spec_right.j3 kj2 a1 true a0_0 a0_1 a0_2 a0_3 l0_4 l0_5) else (if FloatKind.f64.format.sub a0_2 a0_2 = none then (spec_right.j3 kj2 a1 true a0_0 a0_1 a0_2 a0_3 l0_4 l0_5) else (if a0_0 = 6 then (if (l0_5.length : Int) > 300 then (spec_right.j3 kj2 a1 true a0_0 a0_1 a0_2 a0_3 l0_4 l0_5) else (spec_right.j3 kj2 a1 (a1 == 0) a0_0 a0_1 a0_2 a0_3 l0_4 l0_5)) else (if a0_0 = 7 then (if (l0_5.length : Int) > 300 then (spec_right.j3 kj2 a1 true a0_0 a0_1 a0_2 a0_3 l0_4 l0_5) else (spec_right.j3 kj2 a1 (a1 == 0) a0_0 a0_1 a0_2 a0_3 l0_4 l0_5)) else (if (l0_5.length : Int) > 0 then (spec_right.j3 kj2 a1 true a0_0 a0_1 a0_2 a0_3 l0_4 l0_5) else (if (l0_5.length : Int) > 300 then (spec_right.j3 kj2 a1 true a0_0 a0_1 a0_2 a0_3 l0_4 l0_5) else (spec_right.j3 kj2 a1 (a1 == 0) a0_0 a0_1 a0_2 a0_3 l0_4 l0_5))))))) else (spec_right.j3 kj2 a1 true a0_0 a0_1 a0_2 a0_3 l0_4 l0_5)) = some r := H
    have A46 := Aside0.mk A460
    clear A460
    by_cases c47 : t109 = true
    ·
     subst c47
     have H1 : (if (a0_3.size : Int) > 300 then (spec_right.j3 kj2 a1 true a0_0 a0_1 a0_2 a0_3 l0_4 l0_5) else (if FloatKind.f64.format.sub a0_2 a0_2 = none then (spec_right.j3 kj2 a1 true a0_0 a0_1 a0_2 a0_3 l0_4 l0_5) else (if a0_0 = 6 then (if (l0_5.length : Int) > 300 then (spec_right.j3 kj2 a1 true a0_0 a0_1 a0_2 a0_3 l0_4 l0_5) else (spec_right.j3 kj2 a1 (a1 == 0) a0_0 a0_1 a0_2 a0_3 l0_4 l0_5)) else (if a0_0 = 7 then (if (l0_5.length : Int) > 300 then (spec_right.j3 kj2 a1 true a0_0 a0_1 a0_2 a0_3 l0_4 l0_5) else (spec_right.j3 kj2 a1 (a1 == 0) a0_0 a0_1 a0_2 a0_3 l0_4 l0_5)) else (if (l0_5.length : Int) > 0 then (spec_right.j3 kj2 a1 true a0_0 a0_1 a0_2 a0_3 l0_4 l0_5) else (if (l0_5.length : Int) > 300 then (spec_right.j3 kj2 a1 true a0_0 a0_1 a0_2 a0_3 l0_4 l0_5) else (spec_right.j3 kj2 a1 (a1 == 0) a0_0 a0_1 a0_2 a0_3 l0_4 l0_5))))))) = some r := by rw [if_pos rfl] at H; exact H
     clear H
     have H := H1
     clear H1
     by_cases c48 : (a0_3.size : Int) > 300
     ·
      rw [if_pos c48] at H
      have c48b0 : decide (300 < (a0_3.size : Int)) = true := decide_eq_true c48
      have c48b1 : decide (300 < a0_3.size) = true := decide_eq_true (by omega)
      clear c48
      (first | rw [c48b0] | (simp only [i64_w, i32_w]; rw [c48b0]) | skip)
      as_aux_lemma =>
       have H' := Aside0.mk H
       clear H
       have hnb49 := NB107_106.out
       have hnc49 := NB106_107.out
       have hnb50 := NB107_108.out
       have hnc50 := NB108_107.out
       have hcz51_0 : wc.cell? ⟨gb107, 0, none⟩ = some (.int .i64 a0_0) := (blk_cell BK107.out 0).trans rfl
       have hcz51_1 : wc.cell? ⟨gb107, 1, none⟩ = some (.int .i64 a0_1) := (blk_cell BK107.out 1).trans rfl
       have hcz51_2 : wc.cell? ⟨gb107, 2, none⟩ = some (.float .f64 a0_2) := (blk_cell BK107.out 2).trans rfl
       have hcz51_3 : wc.cell? ⟨gb107, 3, none⟩ = some (.string a0_3) := (blk_cell BK107.out 3).trans rfl
       have hcz51_4 : wc.cell? ⟨gb107, 4, none⟩ = some (.slice none 0 0) := (blk_cell BK107.out 4).trans rfl
       have hcz51_5 : wc.cell? ⟨gb107, 5, none⟩ = some (.slice none 0 0) := (blk_cell BK107.out 5).trans rfl
       have hfz51_0 := blk_frozen BK107.out 0
       have hfz51_1 := blk_frozen BK107.out 1
       have hfz51_2 := blk_frozen BK107.out 2
       have hfz51_3 := blk_frozen BK107.out 3
       have hfz51_4 := blk_frozen BK107.out 4
       have hfz51_5 := blk_frozen BK107.out 5
       have hnb52 := NB108_106.out
       have hnc52 := NB106_108.out
       have hcz53_0 : wc.cell? ⟨gb108, 0, none⟩ = some (.int .i64 a0_0) := (blk_cell BK108.out 0).trans rfl
       have hcz53_1 : wc.cell? ⟨gb108, 1, none⟩ = some (.int .i64 x109001_2) := (blk_cell BK108.out 1).trans rfl
       have hcz53_2 : wc.cell? ⟨gb108, 2, none⟩ = some (.float .f64 x109002_2) := (blk_cell BK108.out 2).trans rfl
       have hcz53_3 : wc.cell? ⟨gb108, 3, none⟩ = some (.string x109003_2) := (blk_cell BK108.out 3).trans rfl
       have hcz53_4 : wc.cell? ⟨gb108, 4, none⟩ = some (.slice none 0 0) := (blk_cell BK108.out 4).trans rfl
       have hcz53_5 : wc.cell? ⟨gb108, 5, none⟩ = some (.slice none 0 0) := (blk_cell BK108.out 5).trans rfl
       have hfz53_0 := blk_frozen BK108.out 0
       have hfz53_1 := blk_frozen BK108.out 1
       have hfz53_2 := blk_frozen BK108.out 2
       have hfz53_3 := blk_frozen BK108.out 3
       have hfz53_4 := blk_frozen BK108.out 4
       have hfz53_5 := blk_frozen BK108.out 5
       go_wp2_with (first | ((with_reducible refine gate_callee (f := 31) rfl ?_); refine goesL_ (some 44) rfl rfl Try.func31 (by kernel_rfl) rfl #[.agg #[.int .i64 a0_0, .int .i64 a0_1, .float .f64 a0_2, .string a0_3, .slice none 0 0, .slice none 0 0], .agg #[.int .i64 a0_0, .int .i64 x109001_2, .float .f64 x109002_2, .string x109003_2, .slice none 0 0, .slice none 0 0]] rfl (by (try simp only [List.map_toArray, List.map_cons, List.map_nil]); first | done | rfl | (simp only [List.length_drop, List.length_take]; rfl)) ?_; (refine (spec_Bare.calls a0_0 a0_1 a0_2 a0_3 _ _ ([] : List ByteArray) _ _ ([] : List (S31)) a0_0 x109001_2 x109002_2 x109003_2 _ _ ([] : List ByteArray) _ _ ([] : List (S31)) true _ ?side1 ?side2 ?side3 ?side4 ?side5 ?side6 ?side7 ?side8 A46.out).mono ?_); (case side1 => exact Kd.C_nil _ _); (case side2 => exact Nat.le_refl _); (case side3 => exact Kd.C_nil _ _); (case side4 => exact Nat.le_refl _); (case side5 => exact Kd.C_nil _ _); (case side6 => exact Nat.le_refl _); (case side7 => exact Kd.C_nil _ _); (case side8 => exact Nat.le_refl _); rintro e w54 ⟨rfl, hb⟩; refine ⟨_, rfl, ?_⟩; have n0_ := Aside0.mk (blk_below (g := gb106) (o := .cells #[.int .i64 a0_0, .int .i64 a0_1, .float .f64 a0_2, .string a0_3, .slice A0_4 l0_4.length c0_4, .slice A0_5 l0_5.length c0_5] 31 (0, 0)) (by (with_reducible repeat first | apply blk_drewN | apply blk_drew | apply blk_alloc); exact BK106.out) hb); have n1_ := Aside0.mk (blk_below (g := gb107) (o := .cells #[.int .i64 a0_0, .int .i64 a0_1, .float .f64 a0_2, .string a0_3, .slice none 0 0, .slice none 0 0] 31 (0, 0)) (by (with_reducible repeat first | apply blk_drewN | apply blk_drew | apply blk_alloc); exact BK107.out) hb); have n2_ := Aside0.mk (blk_below (g := gb108) (o := .cells #[.int .i64 a0_0, .int .i64 x109001_2, .float .f64 x109002_2, .string x109003_2, .slice none 0 0, .slice none 0 0] 31 (0, 0)) (by (with_reducible repeat first | apply blk_drewN | apply blk_drew | apply blk_alloc); exact BK108.out) hb); have n3_ := Aside0.mk (below_step (by repeat (first | (with_reducible first | exact HB.out | apply below_alloc | apply pw_below_drewN | apply below_drew1 | refine below_set ?_ GE106.out | refine below_set ?_ GE107.out | refine below_set ?_ GE108.out) | exact HB.out)) hb); clear BK106; clear BK107; clear BK108; clear HB; have BK106 := n0_; have BK107 := n1_; have BK108 := n2_; have HB := n3_; clear n0_ n1_ n2_ n3_; (try clear hb); (try clear hb2); (try clear hk); (try clear hi); have hcz55_0 : w54.cell? ⟨gb106, 0, none⟩ = some (.int .i64 a0_0) := (blk_cell BK106.out 0).trans rfl; have hcz55_1 : w54.cell? ⟨gb106, 1, none⟩ = some (.int .i64 a0_1) := (blk_cell BK106.out 1).trans rfl; have hcz55_2 : w54.cell? ⟨gb106, 2, none⟩ = some (.float .f64 a0_2) := (blk_cell BK106.out 2).trans rfl; have hcz55_3 : w54.cell? ⟨gb106, 3, none⟩ = some (.string a0_3) := (blk_cell BK106.out 3).trans rfl; have hcz55_4 : w54.cell? ⟨gb106, 4, none⟩ = some (.slice A0_4 l0_4.length c0_4) := (blk_cell BK106.out 4).trans rfl; have hcz55_5 : w54.cell? ⟨gb106, 5, none⟩ = some (.slice A0_5 l0_5.length c0_5) := (blk_cell BK106.out 5).trans rfl; have hfz55_0 := blk_frozen BK106.out 0; have hfz55_1 := blk_frozen BK106.out 1; have hfz55_2 := blk_frozen BK106.out 2; have hfz55_3 := blk_frozen BK106.out 3; have hfz55_4 := blk_frozen BK106.out 4; have hfz55_5 := blk_frozen BK106.out 5))
       go_meet
       case rel => exact ⟨_, (true), (by first | rfl | (simp only [bytesLe_not]; done) | (simp; done) | (simp [*]; done)), H', ⟨by have := HJ2.out; first | omega | exact Nat.le_refl _⟩, ⟨by (with_reducible repeat first | apply blk_drewN | apply blk_drew | apply blk_alloc); exact BK106.out⟩, ⟨by (with_reducible repeat first | apply blk_drewN | apply blk_drew | apply blk_alloc); exact BK107.out⟩, ⟨by (with_reducible repeat first | apply blk_drewN | apply blk_drew | apply blk_alloc); exact BK108.out⟩, ⟨by repeat (first | (with_reducible first | exact HB.out | apply below_alloc | apply pw_below_drewN | apply below_drew1 | refine below_set ?_ GE106.out | refine below_set ?_ GE107.out | refine below_set ?_ GE108.out) | exact HB.out)⟩⟩
     ·
      rw [if_neg c48] at H
      have c48b0 : decide (300 < (a0_3.size : Int)) = false := decide_eq_false c48
      have c48b1 : decide (300 < a0_3.size) = false := decide_eq_false (by omega)
      clear c48
      (first | rw [c48b0] | (simp only [i64_w, i32_w]; rw [c48b0]) | skip)
      by_cases c56 : FloatKind.f64.format.sub a0_2 a0_2 = none
      ·
       rw [if_pos c56] at H
       have c56b0 : ∀ (t_ : TypeId) (W_ : World), (binOp .sub t_ (.float .f64 a0_2) (.float .f64 a0_2)).run Try.prog W_ = .ok (.float .f64 (fnanAt a0_2 W_)) W_.drew := fun t_ W_ => fsub_nan_run c56 t_ W_
       have c56b1 : ∀ (W_ : World), FloatKind.f64.format.order (fnanAt a0_2 W_) 0 = none := fun W_ => fnan_order _ _
       clear c56
       as_aux_lemma =>
        have H' := Aside0.mk H
        clear H
        have hnb57 := NB107_106.out
        have hnc57 := NB106_107.out
        have hnb58 := NB107_108.out
        have hnc58 := NB108_107.out
        have hcz59_0 : wc.cell? ⟨gb107, 0, none⟩ = some (.int .i64 a0_0) := (blk_cell BK107.out 0).trans rfl
        have hcz59_1 : wc.cell? ⟨gb107, 1, none⟩ = some (.int .i64 a0_1) := (blk_cell BK107.out 1).trans rfl
        have hcz59_2 : wc.cell? ⟨gb107, 2, none⟩ = some (.float .f64 a0_2) := (blk_cell BK107.out 2).trans rfl
        have hcz59_3 : wc.cell? ⟨gb107, 3, none⟩ = some (.string a0_3) := (blk_cell BK107.out 3).trans rfl
        have hcz59_4 : wc.cell? ⟨gb107, 4, none⟩ = some (.slice none 0 0) := (blk_cell BK107.out 4).trans rfl
        have hcz59_5 : wc.cell? ⟨gb107, 5, none⟩ = some (.slice none 0 0) := (blk_cell BK107.out 5).trans rfl
        have hfz59_0 := blk_frozen BK107.out 0
        have hfz59_1 := blk_frozen BK107.out 1
        have hfz59_2 := blk_frozen BK107.out 2
        have hfz59_3 := blk_frozen BK107.out 3
        have hfz59_4 := blk_frozen BK107.out 4
        have hfz59_5 := blk_frozen BK107.out 5
        have hnb60 := NB108_106.out
        have hnc60 := NB106_108.out
        have hcz61_0 : wc.cell? ⟨gb108, 0, none⟩ = some (.int .i64 a0_0) := (blk_cell BK108.out 0).trans rfl
        have hcz61_1 : wc.cell? ⟨gb108, 1, none⟩ = some (.int .i64 x109001_2) := (blk_cell BK108.out 1).trans rfl
        have hcz61_2 : wc.cell? ⟨gb108, 2, none⟩ = some (.float .f64 x109002_2) := (blk_cell BK108.out 2).trans rfl
        have hcz61_3 : wc.cell? ⟨gb108, 3, none⟩ = some (.string x109003_2) := (blk_cell BK108.out 3).trans rfl
        have hcz61_4 : wc.cell? ⟨gb108, 4, none⟩ = some (.slice none 0 0) := (blk_cell BK108.out 4).trans rfl
        have hcz61_5 : wc.cell? ⟨gb108, 5, none⟩ = some (.slice none 0 0) := (blk_cell BK108.out 5).trans rfl
        have hfz61_0 := blk_frozen BK108.out 0
        have hfz61_1 := blk_frozen BK108.out 1
        have hfz61_2 := blk_frozen BK108.out 2
        have hfz61_3 := blk_frozen BK108.out 3
        have hfz61_4 := blk_frozen BK108.out 4
        have hfz61_5 := blk_frozen BK108.out 5
        go_wp2_with (first | ((with_reducible refine gate_callee (f := 31) rfl ?_); refine goesL_ (some 44) rfl rfl Try.func31 (by kernel_rfl) rfl #[.agg #[.int .i64 a0_0, .int .i64 a0_1, .float .f64 a0_2, .string a0_3, .slice none 0 0, .slice none 0 0], .agg #[.int .i64 a0_0, .int .i64 x109001_2, .float .f64 x109002_2, .string x109003_2, .slice none 0 0, .slice none 0 0]] rfl (by (try simp only [List.map_toArray, List.map_cons, List.map_nil]); first | done | rfl | (simp only [List.length_drop, List.length_take]; rfl)) ?_; (refine (spec_Bare.calls a0_0 a0_1 a0_2 a0_3 _ _ ([] : List ByteArray) _ _ ([] : List (S31)) a0_0 x109001_2 x109002_2 x109003_2 _ _ ([] : List ByteArray) _ _ ([] : List (S31)) true _ ?side1 ?side2 ?side3 ?side4 ?side5 ?side6 ?side7 ?side8 A46.out).mono ?_); (case side1 => exact Kd.C_nil _ _); (case side2 => exact Nat.le_refl _); (case side3 => exact Kd.C_nil _ _); (case side4 => exact Nat.le_refl _); (case side5 => exact Kd.C_nil _ _); (case side6 => exact Nat.le_refl _); (case side7 => exact Kd.C_nil _ _); (case side8 => exact Nat.le_refl _); rintro e w62 ⟨rfl, hb⟩; refine ⟨_, rfl, ?_⟩; have n0_ := Aside0.mk (blk_below (g := gb106) (o := .cells #[.int .i64 a0_0, .int .i64 a0_1, .float .f64 a0_2, .string a0_3, .slice A0_4 l0_4.length c0_4, .slice A0_5 l0_5.length c0_5] 31 (0, 0)) (by (with_reducible repeat first | apply blk_drewN | apply blk_drew | apply blk_alloc); exact BK106.out) hb); have n1_ := Aside0.mk (blk_below (g := gb107) (o := .cells #[.int .i64 a0_0, .int .i64 a0_1, .float .f64 a0_2, .string a0_3, .slice none 0 0, .slice none 0 0] 31 (0, 0)) (by (with_reducible repeat first | apply blk_drewN | apply blk_drew | apply blk_alloc); exact BK107.out) hb); have n2_ := Aside0.mk (blk_below (g := gb108) (o := .cells #[.int .i64 a0_0, .int .i64 x109001_2, .float .f64 x109002_2, .string x109003_2, .slice none 0 0, .slice none 0 0] 31 (0, 0)) (by (with_reducible repeat first | apply blk_drewN | apply blk_drew | apply blk_alloc); exact BK108.out) hb); have n3_ := Aside0.mk (below_step (by repeat (first | (with_reducible first | exact HB.out | apply below_alloc | apply pw_below_drewN | apply below_drew1 | refine below_set ?_ GE106.out | refine below_set ?_ GE107.out | refine below_set ?_ GE108.out) | exact HB.out)) hb); clear BK106; clear BK107; clear BK108; clear HB; have BK106 := n0_; have BK107 := n1_; have BK108 := n2_; have HB := n3_; clear n0_ n1_ n2_ n3_; (try clear hb); (try clear hb2); (try clear hk); (try clear hi); have hcz63_0 : w62.cell? ⟨gb106, 0, none⟩ = some (.int .i64 a0_0) := (blk_cell BK106.out 0).trans rfl; have hcz63_1 : w62.cell? ⟨gb106, 1, none⟩ = some (.int .i64 a0_1) := (blk_cell BK106.out 1).trans rfl; have hcz63_2 : w62.cell? ⟨gb106, 2, none⟩ = some (.float .f64 a0_2) := (blk_cell BK106.out 2).trans rfl; have hcz63_3 : w62.cell? ⟨gb106, 3, none⟩ = some (.string a0_3) := (blk_cell BK106.out 3).trans rfl; have hcz63_4 : w62.cell? ⟨gb106, 4, none⟩ = some (.slice A0_4 l0_4.length c0_4) := (blk_cell BK106.out 4).trans rfl; have hcz63_5 : w62.cell? ⟨gb106, 5, none⟩ = some (.slice A0_5 l0_5.length c0_5) := (blk_cell BK106.out 5).trans rfl; have hfz63_0 := blk_frozen BK106.out 0; have hfz63_1 := blk_frozen BK106.out 1; have hfz63_2 := blk_frozen BK106.out 2; have hfz63_3 := blk_frozen BK106.out 3; have hfz63_4 := blk_frozen BK106.out 4; have hfz63_5 := blk_frozen BK106.out 5))
        go_meet
        case rel => exact ⟨_, (true), (by first | rfl | (simp only [bytesLe_not]; done) | (simp; done) | (simp [*]; done)), H', ⟨by have := HJ2.out; first | omega | exact Nat.le_refl _⟩, ⟨by (with_reducible repeat first | apply blk_drewN | apply blk_drew | apply blk_alloc); exact BK106.out⟩, ⟨by (with_reducible repeat first | apply blk_drewN | apply blk_drew | apply blk_alloc); exact BK107.out⟩, ⟨by (with_reducible repeat first | apply blk_drewN | apply blk_drew | apply blk_alloc); exact BK108.out⟩, ⟨by repeat (first | (with_reducible first | exact HB.out | apply below_alloc | apply pw_below_drewN | apply below_drew1 | refine below_set ?_ GE106.out | refine below_set ?_ GE107.out | refine below_set ?_ GE108.out) | exact HB.out)⟩⟩
      ·
       rw [if_neg c56] at H
       have c56b0 : ∀ (t_ : TypeId) (W_ : World), (binOp .sub t_ (.float .f64 a0_2) (.float .f64 a0_2)).run Try.prog W_ = .ok (.float .f64 0) W_ := fun t_ W_ => fsub_num_run c56 t_ W_
       have c56b1 : FloatKind.f64.format.order 0 0 = some Ordering.eq := forder_00
       by_cases c64 : a0_0 = 6
       ·
        rw [if_pos c64] at H
        have c64b0 : (a0_0 == 6) = true := beq_iff_eq.mpr c64
        have c64b1 : (a0_0 != 6) = false := bne_eq_false_iff_eq.mpr c64
        clear c64
        by_cases c65 : (l0_5.length : Int) > 300
        ·
         rw [if_pos c65] at H
         have c65b0 : decide (300 < (l0_5.length : Int)) = true := decide_eq_true c65
         have c65b1 : decide (300 < l0_5.length) = true := decide_eq_true (by omega)
         clear c65
         as_aux_lemma =>
          have H' := Aside0.mk H
          clear H
          have hnb66 := NB107_106.out
          have hnc66 := NB106_107.out
          have hnb67 := NB107_108.out
          have hnc67 := NB108_107.out
          have hcz68_0 : wc.cell? ⟨gb107, 0, none⟩ = some (.int .i64 a0_0) := (blk_cell BK107.out 0).trans rfl
          have hcz68_1 : wc.cell? ⟨gb107, 1, none⟩ = some (.int .i64 a0_1) := (blk_cell BK107.out 1).trans rfl
          have hcz68_2 : wc.cell? ⟨gb107, 2, none⟩ = some (.float .f64 a0_2) := (blk_cell BK107.out 2).trans rfl
          have hcz68_3 : wc.cell? ⟨gb107, 3, none⟩ = some (.string a0_3) := (blk_cell BK107.out 3).trans rfl
          have hcz68_4 : wc.cell? ⟨gb107, 4, none⟩ = some (.slice none 0 0) := (blk_cell BK107.out 4).trans rfl
          have hcz68_5 : wc.cell? ⟨gb107, 5, none⟩ = some (.slice none 0 0) := (blk_cell BK107.out 5).trans rfl
          have hfz68_0 := blk_frozen BK107.out 0
          have hfz68_1 := blk_frozen BK107.out 1
          have hfz68_2 := blk_frozen BK107.out 2
          have hfz68_3 := blk_frozen BK107.out 3
          have hfz68_4 := blk_frozen BK107.out 4
          have hfz68_5 := blk_frozen BK107.out 5
          have hnb69 := NB108_106.out
          have hnc69 := NB106_108.out
          have hcz70_0 : wc.cell? ⟨gb108, 0, none⟩ = some (.int .i64 a0_0) := (blk_cell BK108.out 0).trans rfl
          have hcz70_1 : wc.cell? ⟨gb108, 1, none⟩ = some (.int .i64 x109001_2) := (blk_cell BK108.out 1).trans rfl
          have hcz70_2 : wc.cell? ⟨gb108, 2, none⟩ = some (.float .f64 x109002_2) := (blk_cell BK108.out 2).trans rfl
          have hcz70_3 : wc.cell? ⟨gb108, 3, none⟩ = some (.string x109003_2) := (blk_cell BK108.out 3).trans rfl
          have hcz70_4 : wc.cell? ⟨gb108, 4, none⟩ = some (.slice none 0 0) := (blk_cell BK108.out 4).trans rfl
          have hcz70_5 : wc.cell? ⟨gb108, 5, none⟩ = some (.slice none 0 0) := (blk_cell BK108.out 5).trans rfl
          have hfz70_0 := blk_frozen BK108.out 0
          have hfz70_1 := blk_frozen BK108.out 1
          have hfz70_2 := blk_frozen BK108.out 2
          have hfz70_3 := blk_frozen BK108.out 3
          have hfz70_4 := blk_frozen BK108.out 4
          have hfz70_5 := blk_frozen BK108.out 5
          go_wp2_with (first | ((with_reducible refine gate_callee (f := 31) rfl ?_); refine goesL_ (some 44) rfl rfl Try.func31 (by kernel_rfl) rfl #[.agg #[.int .i64 a0_0, .int .i64 a0_1, .float .f64 a0_2, .string a0_3, .slice none 0 0, .slice none 0 0], .agg #[.int .i64 a0_0, .int .i64 x109001_2, .float .f64 x109002_2, .string x109003_2, .slice none 0 0, .slice none 0 0]] rfl (by (try simp only [List.map_toArray, List.map_cons, List.map_nil]); first | done | rfl | (simp only [List.length_drop, List.length_take]; rfl)) ?_; (refine (spec_Bare.calls a0_0 a0_1 a0_2 a0_3 _ _ ([] : List ByteArray) _ _ ([] : List (S31)) a0_0 x109001_2 x109002_2 x109003_2 _ _ ([] : List ByteArray) _ _ ([] : List (S31)) true _ ?side1 ?side2 ?side3 ?side4 ?side5 ?side6 ?side7 ?side8 A46.out).mono ?_); (case side1 => exact Kd.C_nil _ _); (case side2 => exact Nat.le_refl _); (case side3 => exact Kd.C_nil _ _); (case side4 => exact Nat.le_refl _); (case side5 => exact Kd.C_nil _ _); (case side6 => exact Nat.le_refl _); (case side7 => exact Kd.C_nil _ _); (case side8 => exact Nat.le_refl _); rintro e w71 ⟨rfl, hb⟩; refine ⟨_, rfl, ?_⟩; have n0_ := Aside0.mk (blk_below (g := gb106) (o := .cells #[.int .i64 a0_0, .int .i64 a0_1, .float .f64 a0_2, .string a0_3, .slice A0_4 l0_4.length c0_4, .slice A0_5 l0_5.length c0_5] 31 (0, 0)) (by (with_reducible repeat first | apply blk_drewN | apply blk_drew | apply blk_alloc); exact BK106.out) hb); have n1_ := Aside0.mk (blk_below (g := gb107) (o := .cells #[.int .i64 a0_0, .int .i64 a0_1, .float .f64 a0_2, .string a0_3, .slice none 0 0, .slice none 0 0] 31 (0, 0)) (by (with_reducible repeat first | apply blk_drewN | apply blk_drew | apply blk_alloc); exact BK107.out) hb); have n2_ := Aside0.mk (blk_below (g := gb108) (o := .cells #[.int .i64 a0_0, .int .i64 x109001_2, .float .f64 x109002_2, .string x109003_2, .slice none 0 0, .slice none 0 0] 31 (0, 0)) (by (with_reducible repeat first | apply blk_drewN | apply blk_drew | apply blk_alloc); exact BK108.out) hb); have n3_ := Aside0.mk (below_step (by repeat (first | (with_reducible first | exact HB.out | apply below_alloc | apply pw_below_drewN | apply below_drew1 | refine below_set ?_ GE106.out | refine below_set ?_ GE107.out | refine below_set ?_ GE108.out) | exact HB.out)) hb); clear BK106; clear BK107; clear BK108; clear HB; have BK106 := n0_; have BK107 := n1_; have BK108 := n2_; have HB := n3_; clear n0_ n1_ n2_ n3_; (try clear hb); (try clear hb2); (try clear hk); (try clear hi); have hcz72_0 : w71.cell? ⟨gb106, 0, none⟩ = some (.int .i64 a0_0) := (blk_cell BK106.out 0).trans rfl; have hcz72_1 : w71.cell? ⟨gb106, 1, none⟩ = some (.int .i64 a0_1) := (blk_cell BK106.out 1).trans rfl; have hcz72_2 : w71.cell? ⟨gb106, 2, none⟩ = some (.float .f64 a0_2) := (blk_cell BK106.out 2).trans rfl; have hcz72_3 : w71.cell? ⟨gb106, 3, none⟩ = some (.string a0_3) := (blk_cell BK106.out 3).trans rfl; have hcz72_4 : w71.cell? ⟨gb106, 4, none⟩ = some (.slice A0_4 l0_4.length c0_4) := (blk_cell BK106.out 4).trans rfl; have hcz72_5 : w71.cell? ⟨gb106, 5, none⟩ = some (.slice A0_5 l0_5.length c0_5) := (blk_cell BK106.out 5).trans rfl; have hfz72_0 := blk_frozen BK106.out 0; have hfz72_1 := blk_frozen BK106.out 1; have hfz72_2 := blk_frozen BK106.out 2; have hfz72_3 := blk_frozen BK106.out 3; have hfz72_4 := blk_frozen BK106.out 4; have hfz72_5 := blk_frozen BK106.out 5))
          go_meet
          case rel => exact ⟨_, (true), (by first | rfl | (simp only [bytesLe_not]; done) | (simp; done) | (simp [*]; done)), H', ⟨by have := HJ2.out; first | omega | exact Nat.le_refl _⟩, ⟨by (with_reducible repeat first | apply blk_drewN | apply blk_drew | apply blk_alloc); exact BK106.out⟩, ⟨by (with_reducible repeat first | apply blk_drewN | apply blk_drew | apply blk_alloc); exact BK107.out⟩, ⟨by (with_reducible repeat first | apply blk_drewN | apply blk_drew | apply blk_alloc); exact BK108.out⟩, ⟨by repeat (first | (with_reducible first | exact HB.out | apply below_alloc | apply pw_below_drewN | apply below_drew1 | refine below_set ?_ GE106.out | refine below_set ?_ GE107.out | refine below_set ?_ GE108.out) | exact HB.out)⟩⟩
        ·
         rw [if_neg c65] at H
         have c65b0 : decide (300 < (l0_5.length : Int)) = false := decide_eq_false c65
         have c65b1 : decide (300 < l0_5.length) = false := decide_eq_false (by omega)
         clear c65
         as_aux_lemma =>
          have H' := Aside0.mk H
          clear H
          have hnb73 := NB107_106.out
          have hnc73 := NB106_107.out
          have hnb74 := NB107_108.out
          have hnc74 := NB108_107.out
          have hcz75_0 : wc.cell? ⟨gb107, 0, none⟩ = some (.int .i64 a0_0) := (blk_cell BK107.out 0).trans rfl
          have hcz75_1 : wc.cell? ⟨gb107, 1, none⟩ = some (.int .i64 a0_1) := (blk_cell BK107.out 1).trans rfl
          have hcz75_2 : wc.cell? ⟨gb107, 2, none⟩ = some (.float .f64 a0_2) := (blk_cell BK107.out 2).trans rfl
          have hcz75_3 : wc.cell? ⟨gb107, 3, none⟩ = some (.string a0_3) := (blk_cell BK107.out 3).trans rfl
          have hcz75_4 : wc.cell? ⟨gb107, 4, none⟩ = some (.slice none 0 0) := (blk_cell BK107.out 4).trans rfl
          have hcz75_5 : wc.cell? ⟨gb107, 5, none⟩ = some (.slice none 0 0) := (blk_cell BK107.out 5).trans rfl
          have hfz75_0 := blk_frozen BK107.out 0
          have hfz75_1 := blk_frozen BK107.out 1
          have hfz75_2 := blk_frozen BK107.out 2
          have hfz75_3 := blk_frozen BK107.out 3
          have hfz75_4 := blk_frozen BK107.out 4
          have hfz75_5 := blk_frozen BK107.out 5
          have hnb76 := NB108_106.out
          have hnc76 := NB106_108.out
          have hcz77_0 : wc.cell? ⟨gb108, 0, none⟩ = some (.int .i64 a0_0) := (blk_cell BK108.out 0).trans rfl
          have hcz77_1 : wc.cell? ⟨gb108, 1, none⟩ = some (.int .i64 x109001_2) := (blk_cell BK108.out 1).trans rfl
          have hcz77_2 : wc.cell? ⟨gb108, 2, none⟩ = some (.float .f64 x109002_2) := (blk_cell BK108.out 2).trans rfl
          have hcz77_3 : wc.cell? ⟨gb108, 3, none⟩ = some (.string x109003_2) := (blk_cell BK108.out 3).trans rfl
          have hcz77_4 : wc.cell? ⟨gb108, 4, none⟩ = some (.slice none 0 0) := (blk_cell BK108.out 4).trans rfl
          have hcz77_5 : wc.cell? ⟨gb108, 5, none⟩ = some (.slice none 0 0) := (blk_cell BK108.out 5).trans rfl
          have hfz77_0 := blk_frozen BK108.out 0
          have hfz77_1 := blk_frozen BK108.out 1
          have hfz77_2 := blk_frozen BK108.out 2
          have hfz77_3 := blk_frozen BK108.out 3
          have hfz77_4 := blk_frozen BK108.out 4
          have hfz77_5 := blk_frozen BK108.out 5
          go_wp2_with (first | ((with_reducible refine gate_callee (f := 31) rfl ?_); refine goesL_ (some 44) rfl rfl Try.func31 (by kernel_rfl) rfl #[.agg #[.int .i64 a0_0, .int .i64 a0_1, .float .f64 a0_2, .string a0_3, .slice none 0 0, .slice none 0 0], .agg #[.int .i64 a0_0, .int .i64 x109001_2, .float .f64 x109002_2, .string x109003_2, .slice none 0 0, .slice none 0 0]] rfl (by (try simp only [List.map_toArray, List.map_cons, List.map_nil]); first | done | rfl | (simp only [List.length_drop, List.length_take]; rfl)) ?_; (refine (spec_Bare.calls a0_0 a0_1 a0_2 a0_3 _ _ ([] : List ByteArray) _ _ ([] : List (S31)) a0_0 x109001_2 x109002_2 x109003_2 _ _ ([] : List ByteArray) _ _ ([] : List (S31)) true _ ?side1 ?side2 ?side3 ?side4 ?side5 ?side6 ?side7 ?side8 A46.out).mono ?_); (case side1 => exact Kd.C_nil _ _); (case side2 => exact Nat.le_refl _); (case side3 => exact Kd.C_nil _ _); (case side4 => exact Nat.le_refl _); (case side5 => exact Kd.C_nil _ _); (case side6 => exact Nat.le_refl _); (case side7 => exact Kd.C_nil _ _); (case side8 => exact Nat.le_refl _); rintro e w78 ⟨rfl, hb⟩; refine ⟨_, rfl, ?_⟩; have n0_ := Aside0.mk (blk_below (g := gb106) (o := .cells #[.int .i64 a0_0, .int .i64 a0_1, .float .f64 a0_2, .string a0_3, .slice A0_4 l0_4.length c0_4, .slice A0_5 l0_5.length c0_5] 31 (0, 0)) (by (with_reducible repeat first | apply blk_drewN | apply blk_drew | apply blk_alloc); exact BK106.out) hb); have n1_ := Aside0.mk (blk_below (g := gb107) (o := .cells #[.int .i64 a0_0, .int .i64 a0_1, .float .f64 a0_2, .string a0_3, .slice none 0 0, .slice none 0 0] 31 (0, 0)) (by (with_reducible repeat first | apply blk_drewN | apply blk_drew | apply blk_alloc); exact BK107.out) hb); have n2_ := Aside0.mk (blk_below (g := gb108) (o := .cells #[.int .i64 a0_0, .int .i64 x109001_2, .float .f64 x109002_2, .string x109003_2, .slice none 0 0, .slice none 0 0] 31 (0, 0)) (by (with_reducible repeat first | apply blk_drewN | apply blk_drew | apply blk_alloc); exact BK108.out) hb); have n3_ := Aside0.mk (below_step (by repeat (first | (with_reducible first | exact HB.out | apply below_alloc | apply pw_below_drewN | apply below_drew1 | refine below_set ?_ GE106.out | refine below_set ?_ GE107.out | refine below_set ?_ GE108.out) | exact HB.out)) hb); clear BK106; clear BK107; clear BK108; clear HB; have BK106 := n0_; have BK107 := n1_; have BK108 := n2_; have HB := n3_; clear n0_ n1_ n2_ n3_; (try clear hb); (try clear hb2); (try clear hk); (try clear hi); have hcz79_0 : w78.cell? ⟨gb106, 0, none⟩ = some (.int .i64 a0_0) := (blk_cell BK106.out 0).trans rfl; have hcz79_1 : w78.cell? ⟨gb106, 1, none⟩ = some (.int .i64 a0_1) := (blk_cell BK106.out 1).trans rfl; have hcz79_2 : w78.cell? ⟨gb106, 2, none⟩ = some (.float .f64 a0_2) := (blk_cell BK106.out 2).trans rfl; have hcz79_3 : w78.cell? ⟨gb106, 3, none⟩ = some (.string a0_3) := (blk_cell BK106.out 3).trans rfl; have hcz79_4 : w78.cell? ⟨gb106, 4, none⟩ = some (.slice A0_4 l0_4.length c0_4) := (blk_cell BK106.out 4).trans rfl; have hcz79_5 : w78.cell? ⟨gb106, 5, none⟩ = some (.slice A0_5 l0_5.length c0_5) := (blk_cell BK106.out 5).trans rfl; have hfz79_0 := blk_frozen BK106.out 0; have hfz79_1 := blk_frozen BK106.out 1; have hfz79_2 := blk_frozen BK106.out 2; have hfz79_3 := blk_frozen BK106.out 3; have hfz79_4 := blk_frozen BK106.out 4; have hfz79_5 := blk_frozen BK106.out 5))
          go_meet
          case rel => exact ⟨_, ((a1 == 0)), (by first | rfl | (simp only [bytesLe_not]; done) | (simp; done) | (simp [*]; done)), H', ⟨by have := HJ2.out; first | omega | exact Nat.le_refl _⟩, ⟨by (with_reducible repeat first | apply blk_drewN | apply blk_drew | apply blk_alloc); exact BK106.out⟩, ⟨by (with_reducible repeat first | apply blk_drewN | apply blk_drew | apply blk_alloc); exact BK107.out⟩, ⟨by (with_reducible repeat first | apply blk_drewN | apply blk_drew | apply blk_alloc); exact BK108.out⟩, ⟨by repeat (first | (with_reducible first | exact HB.out | apply below_alloc | apply pw_below_drewN | apply below_drew1 | refine below_set ?_ GE106.out | refine below_set ?_ GE107.out | refine below_set ?_ GE108.out) | exact HB.out)⟩⟩
       ·
        rw [if_neg c64] at H
        have c64b0 : (a0_0 == 6) = false := beq_eq_false_iff_ne.mpr c64
        have c64b1 : (a0_0 != 6) = true := bne_iff_ne.mpr c64
        by_cases c80 : a0_0 = 7
        ·
         rw [if_pos c80] at H
         have c80b0 : (a0_0 == 7) = true := beq_iff_eq.mpr c80
         have c80b1 : (a0_0 != 7) = false := bne_eq_false_iff_eq.mpr c80
         clear c80
         by_cases c81 : (l0_5.length : Int) > 300
         ·
          rw [if_pos c81] at H
          have c81b0 : decide (300 < (l0_5.length : Int)) = true := decide_eq_true c81
          have c81b1 : decide (300 < l0_5.length) = true := decide_eq_true (by omega)
          clear c81
          as_aux_lemma =>
           have H' := Aside0.mk H
           clear H
           have hnb82 := NB107_106.out
           have hnc82 := NB106_107.out
           have hnb83 := NB107_108.out
           have hnc83 := NB108_107.out
           have hcz84_0 : wc.cell? ⟨gb107, 0, none⟩ = some (.int .i64 a0_0) := (blk_cell BK107.out 0).trans rfl
           have hcz84_1 : wc.cell? ⟨gb107, 1, none⟩ = some (.int .i64 a0_1) := (blk_cell BK107.out 1).trans rfl
           have hcz84_2 : wc.cell? ⟨gb107, 2, none⟩ = some (.float .f64 a0_2) := (blk_cell BK107.out 2).trans rfl
           have hcz84_3 : wc.cell? ⟨gb107, 3, none⟩ = some (.string a0_3) := (blk_cell BK107.out 3).trans rfl
           have hcz84_4 : wc.cell? ⟨gb107, 4, none⟩ = some (.slice none 0 0) := (blk_cell BK107.out 4).trans rfl
           have hcz84_5 : wc.cell? ⟨gb107, 5, none⟩ = some (.slice none 0 0) := (blk_cell BK107.out 5).trans rfl
           have hfz84_0 := blk_frozen BK107.out 0
           have hfz84_1 := blk_frozen BK107.out 1
           have hfz84_2 := blk_frozen BK107.out 2
           have hfz84_3 := blk_frozen BK107.out 3
           have hfz84_4 := blk_frozen BK107.out 4
           have hfz84_5 := blk_frozen BK107.out 5
           have hnb85 := NB108_106.out
           have hnc85 := NB106_108.out
           have hcz86_0 : wc.cell? ⟨gb108, 0, none⟩ = some (.int .i64 a0_0) := (blk_cell BK108.out 0).trans rfl
           have hcz86_1 : wc.cell? ⟨gb108, 1, none⟩ = some (.int .i64 x109001_2) := (blk_cell BK108.out 1).trans rfl
           have hcz86_2 : wc.cell? ⟨gb108, 2, none⟩ = some (.float .f64 x109002_2) := (blk_cell BK108.out 2).trans rfl
           have hcz86_3 : wc.cell? ⟨gb108, 3, none⟩ = some (.string x109003_2) := (blk_cell BK108.out 3).trans rfl
           have hcz86_4 : wc.cell? ⟨gb108, 4, none⟩ = some (.slice none 0 0) := (blk_cell BK108.out 4).trans rfl
           have hcz86_5 : wc.cell? ⟨gb108, 5, none⟩ = some (.slice none 0 0) := (blk_cell BK108.out 5).trans rfl
           have hfz86_0 := blk_frozen BK108.out 0
           have hfz86_1 := blk_frozen BK108.out 1
           have hfz86_2 := blk_frozen BK108.out 2
           have hfz86_3 := blk_frozen BK108.out 3
           have hfz86_4 := blk_frozen BK108.out 4
           have hfz86_5 := blk_frozen BK108.out 5
           go_wp2_with (first | ((with_reducible refine gate_callee (f := 31) rfl ?_); refine goesL_ (some 44) rfl rfl Try.func31 (by kernel_rfl) rfl #[.agg #[.int .i64 a0_0, .int .i64 a0_1, .float .f64 a0_2, .string a0_3, .slice none 0 0, .slice none 0 0], .agg #[.int .i64 a0_0, .int .i64 x109001_2, .float .f64 x109002_2, .string x109003_2, .slice none 0 0, .slice none 0 0]] rfl (by (try simp only [List.map_toArray, List.map_cons, List.map_nil]); first | done | rfl | (simp only [List.length_drop, List.length_take]; rfl)) ?_; (refine (spec_Bare.calls a0_0 a0_1 a0_2 a0_3 _ _ ([] : List ByteArray) _ _ ([] : List (S31)) a0_0 x109001_2 x109002_2 x109003_2 _ _ ([] : List ByteArray) _ _ ([] : List (S31)) true _ ?side1 ?side2 ?side3 ?side4 ?side5 ?side6 ?side7 ?side8 A46.out).mono ?_); (case side1 => exact Kd.C_nil _ _); (case side2 => exact Nat.le_refl _); (case side3 => exact Kd.C_nil _ _); (case side4 => exact Nat.le_refl _); (case side5 => exact Kd.C_nil _ _); (case side6 => exact Nat.le_refl _); (case side7 => exact Kd.C_nil _ _); (case side8 => exact Nat.le_refl _); rintro e w87 ⟨rfl, hb⟩; refine ⟨_, rfl, ?_⟩; have n0_ := Aside0.mk (blk_below (g := gb106) (o := .cells #[.int .i64 a0_0, .int .i64 a0_1, .float .f64 a0_2, .string a0_3, .slice A0_4 l0_4.length c0_4, .slice A0_5 l0_5.length c0_5] 31 (0, 0)) (by (with_reducible repeat first | apply blk_drewN | apply blk_drew | apply blk_alloc); exact BK106.out) hb); have n1_ := Aside0.mk (blk_below (g := gb107) (o := .cells #[.int .i64 a0_0, .int .i64 a0_1, .float .f64 a0_2, .string a0_3, .slice none 0 0, .slice none 0 0] 31 (0, 0)) (by (with_reducible repeat first | apply blk_drewN | apply blk_drew | apply blk_alloc); exact BK107.out) hb); have n2_ := Aside0.mk (blk_below (g := gb108) (o := .cells #[.int .i64 a0_0, .int .i64 x109001_2, .float .f64 x109002_2, .string x109003_2, .slice none 0 0, .slice none 0 0] 31 (0, 0)) (by (with_reducible repeat first | apply blk_drewN | apply blk_drew | apply blk_alloc); exact BK108.out) hb); have n3_ := Aside0.mk (below_step (by repeat (first | (with_reducible first | exact HB.out | apply below_alloc | apply pw_below_drewN | apply below_drew1 | refine below_set ?_ GE106.out | refine below_set ?_ GE107.out | refine below_set ?_ GE108.out) | exact HB.out)) hb); clear BK106; clear BK107; clear BK108; clear HB; have BK106 := n0_; have BK107 := n1_; have BK108 := n2_; have HB := n3_; clear n0_ n1_ n2_ n3_; (try clear hb); (try clear hb2); (try clear hk); (try clear hi); have hcz88_0 : w87.cell? ⟨gb106, 0, none⟩ = some (.int .i64 a0_0) := (blk_cell BK106.out 0).trans rfl; have hcz88_1 : w87.cell? ⟨gb106, 1, none⟩ = some (.int .i64 a0_1) := (blk_cell BK106.out 1).trans rfl; have hcz88_2 : w87.cell? ⟨gb106, 2, none⟩ = some (.float .f64 a0_2) := (blk_cell BK106.out 2).trans rfl; have hcz88_3 : w87.cell? ⟨gb106, 3, none⟩ = some (.string a0_3) := (blk_cell BK106.out 3).trans rfl; have hcz88_4 : w87.cell? ⟨gb106, 4, none⟩ = some (.slice A0_4 l0_4.length c0_4) := (blk_cell BK106.out 4).trans rfl; have hcz88_5 : w87.cell? ⟨gb106, 5, none⟩ = some (.slice A0_5 l0_5.length c0_5) := (blk_cell BK106.out 5).trans rfl; have hfz88_0 := blk_frozen BK106.out 0; have hfz88_1 := blk_frozen BK106.out 1; have hfz88_2 := blk_frozen BK106.out 2; have hfz88_3 := blk_frozen BK106.out 3; have hfz88_4 := blk_frozen BK106.out 4; have hfz88_5 := blk_frozen BK106.out 5))
           go_meet
           case rel => exact ⟨_, (true), (by first | rfl | (simp only [bytesLe_not]; done) | (simp; done) | (simp [*]; done)), H', ⟨by have := HJ2.out; first | omega | exact Nat.le_refl _⟩, ⟨by (with_reducible repeat first | apply blk_drewN | apply blk_drew | apply blk_alloc); exact BK106.out⟩, ⟨by (with_reducible repeat first | apply blk_drewN | apply blk_drew | apply blk_alloc); exact BK107.out⟩, ⟨by (with_reducible repeat first | apply blk_drewN | apply blk_drew | apply blk_alloc); exact BK108.out⟩, ⟨by repeat (first | (with_reducible first | exact HB.out | apply below_alloc | apply pw_below_drewN | apply below_drew1 | refine below_set ?_ GE106.out | refine below_set ?_ GE107.out | refine below_set ?_ GE108.out) | exact HB.out)⟩⟩
         ·
          rw [if_neg c81] at H
          have c81b0 : decide (300 < (l0_5.length : Int)) = false := decide_eq_false c81
          have c81b1 : decide (300 < l0_5.length) = false := decide_eq_false (by omega)
          clear c81
          as_aux_lemma =>
           have H' := Aside0.mk H
           clear H
           have hnb89 := NB107_106.out
           have hnc89 := NB106_107.out
           have hnb90 := NB107_108.out
           have hnc90 := NB108_107.out
           have hcz91_0 : wc.cell? ⟨gb107, 0, none⟩ = some (.int .i64 a0_0) := (blk_cell BK107.out 0).trans rfl
           have hcz91_1 : wc.cell? ⟨gb107, 1, none⟩ = some (.int .i64 a0_1) := (blk_cell BK107.out 1).trans rfl
           have hcz91_2 : wc.cell? ⟨gb107, 2, none⟩ = some (.float .f64 a0_2) := (blk_cell BK107.out 2).trans rfl
           have hcz91_3 : wc.cell? ⟨gb107, 3, none⟩ = some (.string a0_3) := (blk_cell BK107.out 3).trans rfl
           have hcz91_4 : wc.cell? ⟨gb107, 4, none⟩ = some (.slice none 0 0) := (blk_cell BK107.out 4).trans rfl
           have hcz91_5 : wc.cell? ⟨gb107, 5, none⟩ = some (.slice none 0 0) := (blk_cell BK107.out 5).trans rfl
           have hfz91_0 := blk_frozen BK107.out 0
           have hfz91_1 := blk_frozen BK107.out 1
           have hfz91_2 := blk_frozen BK107.out 2
           have hfz91_3 := blk_frozen BK107.out 3
           have hfz91_4 := blk_frozen BK107.out 4
           have hfz91_5 := blk_frozen BK107.out 5
           have hnb92 := NB108_106.out
           have hnc92 := NB106_108.out
           have hcz93_0 : wc.cell? ⟨gb108, 0, none⟩ = some (.int .i64 a0_0) := (blk_cell BK108.out 0).trans rfl
           have hcz93_1 : wc.cell? ⟨gb108, 1, none⟩ = some (.int .i64 x109001_2) := (blk_cell BK108.out 1).trans rfl
           have hcz93_2 : wc.cell? ⟨gb108, 2, none⟩ = some (.float .f64 x109002_2) := (blk_cell BK108.out 2).trans rfl
           have hcz93_3 : wc.cell? ⟨gb108, 3, none⟩ = some (.string x109003_2) := (blk_cell BK108.out 3).trans rfl
           have hcz93_4 : wc.cell? ⟨gb108, 4, none⟩ = some (.slice none 0 0) := (blk_cell BK108.out 4).trans rfl
           have hcz93_5 : wc.cell? ⟨gb108, 5, none⟩ = some (.slice none 0 0) := (blk_cell BK108.out 5).trans rfl
           have hfz93_0 := blk_frozen BK108.out 0
           have hfz93_1 := blk_frozen BK108.out 1
           have hfz93_2 := blk_frozen BK108.out 2
           have hfz93_3 := blk_frozen BK108.out 3
           have hfz93_4 := blk_frozen BK108.out 4
           have hfz93_5 := blk_frozen BK108.out 5
           go_wp2_with (first | ((with_reducible refine gate_callee (f := 31) rfl ?_); refine goesL_ (some 44) rfl rfl Try.func31 (by kernel_rfl) rfl #[.agg #[.int .i64 a0_0, .int .i64 a0_1, .float .f64 a0_2, .string a0_3, .slice none 0 0, .slice none 0 0], .agg #[.int .i64 a0_0, .int .i64 x109001_2, .float .f64 x109002_2, .string x109003_2, .slice none 0 0, .slice none 0 0]] rfl (by (try simp only [List.map_toArray, List.map_cons, List.map_nil]); first | done | rfl | (simp only [List.length_drop, List.length_take]; rfl)) ?_; (refine (spec_Bare.calls a0_0 a0_1 a0_2 a0_3 _ _ ([] : List ByteArray) _ _ ([] : List (S31)) a0_0 x109001_2 x109002_2 x109003_2 _ _ ([] : List ByteArray) _ _ ([] : List (S31)) true _ ?side1 ?side2 ?side3 ?side4 ?side5 ?side6 ?side7 ?side8 A46.out).mono ?_); (case side1 => exact Kd.C_nil _ _); (case side2 => exact Nat.le_refl _); (case side3 => exact Kd.C_nil _ _); (case side4 => exact Nat.le_refl _); (case side5 => exact Kd.C_nil _ _); (case side6 => exact Nat.le_refl _); (case side7 => exact Kd.C_nil _ _); (case side8 => exact Nat.le_refl _); rintro e w94 ⟨rfl, hb⟩; refine ⟨_, rfl, ?_⟩; have n0_ := Aside0.mk (blk_below (g := gb106) (o := .cells #[.int .i64 a0_0, .int .i64 a0_1, .float .f64 a0_2, .string a0_3, .slice A0_4 l0_4.length c0_4, .slice A0_5 l0_5.length c0_5] 31 (0, 0)) (by (with_reducible repeat first | apply blk_drewN | apply blk_drew | apply blk_alloc); exact BK106.out) hb); have n1_ := Aside0.mk (blk_below (g := gb107) (o := .cells #[.int .i64 a0_0, .int .i64 a0_1, .float .f64 a0_2, .string a0_3, .slice none 0 0, .slice none 0 0] 31 (0, 0)) (by (with_reducible repeat first | apply blk_drewN | apply blk_drew | apply blk_alloc); exact BK107.out) hb); have n2_ := Aside0.mk (blk_below (g := gb108) (o := .cells #[.int .i64 a0_0, .int .i64 x109001_2, .float .f64 x109002_2, .string x109003_2, .slice none 0 0, .slice none 0 0] 31 (0, 0)) (by (with_reducible repeat first | apply blk_drewN | apply blk_drew | apply blk_alloc); exact BK108.out) hb); have n3_ := Aside0.mk (below_step (by repeat (first | (with_reducible first | exact HB.out | apply below_alloc | apply pw_below_drewN | apply below_drew1 | refine below_set ?_ GE106.out | refine below_set ?_ GE107.out | refine below_set ?_ GE108.out) | exact HB.out)) hb); clear BK106; clear BK107; clear BK108; clear HB; have BK106 := n0_; have BK107 := n1_; have BK108 := n2_; have HB := n3_; clear n0_ n1_ n2_ n3_; (try clear hb); (try clear hb2); (try clear hk); (try clear hi); have hcz95_0 : w94.cell? ⟨gb106, 0, none⟩ = some (.int .i64 a0_0) := (blk_cell BK106.out 0).trans rfl; have hcz95_1 : w94.cell? ⟨gb106, 1, none⟩ = some (.int .i64 a0_1) := (blk_cell BK106.out 1).trans rfl; have hcz95_2 : w94.cell? ⟨gb106, 2, none⟩ = some (.float .f64 a0_2) := (blk_cell BK106.out 2).trans rfl; have hcz95_3 : w94.cell? ⟨gb106, 3, none⟩ = some (.string a0_3) := (blk_cell BK106.out 3).trans rfl; have hcz95_4 : w94.cell? ⟨gb106, 4, none⟩ = some (.slice A0_4 l0_4.length c0_4) := (blk_cell BK106.out 4).trans rfl; have hcz95_5 : w94.cell? ⟨gb106, 5, none⟩ = some (.slice A0_5 l0_5.length c0_5) := (blk_cell BK106.out 5).trans rfl; have hfz95_0 := blk_frozen BK106.out 0; have hfz95_1 := blk_frozen BK106.out 1; have hfz95_2 := blk_frozen BK106.out 2; have hfz95_3 := blk_frozen BK106.out 3; have hfz95_4 := blk_frozen BK106.out 4; have hfz95_5 := blk_frozen BK106.out 5))
           go_meet
           case rel => exact ⟨_, ((a1 == 0)), (by first | rfl | (simp only [bytesLe_not]; done) | (simp; done) | (simp [*]; done)), H', ⟨by have := HJ2.out; first | omega | exact Nat.le_refl _⟩, ⟨by (with_reducible repeat first | apply blk_drewN | apply blk_drew | apply blk_alloc); exact BK106.out⟩, ⟨by (with_reducible repeat first | apply blk_drewN | apply blk_drew | apply blk_alloc); exact BK107.out⟩, ⟨by (with_reducible repeat first | apply blk_drewN | apply blk_drew | apply blk_alloc); exact BK108.out⟩, ⟨by repeat (first | (with_reducible first | exact HB.out | apply below_alloc | apply pw_below_drewN | apply below_drew1 | refine below_set ?_ GE106.out | refine below_set ?_ GE107.out | refine below_set ?_ GE108.out) | exact HB.out)⟩⟩
        ·
         rw [if_neg c80] at H
         have c80b0 : (a0_0 == 7) = false := beq_eq_false_iff_ne.mpr c80
         have c80b1 : (a0_0 != 7) = true := bne_iff_ne.mpr c80
         by_cases c96 : (l0_5.length : Int) > 0
         ·
          rw [if_pos c96] at H
          have c96b0 : decide (0 < (l0_5.length : Int)) = true := decide_eq_true c96
          have c96b1 : decide (0 < l0_5.length) = true := decide_eq_true (by omega)
          clear c96
          as_aux_lemma =>
           have H' := Aside0.mk H
           clear H
           have hnb97 := NB107_106.out
           have hnc97 := NB106_107.out
           have hnb98 := NB107_108.out
           have hnc98 := NB108_107.out
           have hcz99_0 : wc.cell? ⟨gb107, 0, none⟩ = some (.int .i64 a0_0) := (blk_cell BK107.out 0).trans rfl
           have hcz99_1 : wc.cell? ⟨gb107, 1, none⟩ = some (.int .i64 a0_1) := (blk_cell BK107.out 1).trans rfl
           have hcz99_2 : wc.cell? ⟨gb107, 2, none⟩ = some (.float .f64 a0_2) := (blk_cell BK107.out 2).trans rfl
           have hcz99_3 : wc.cell? ⟨gb107, 3, none⟩ = some (.string a0_3) := (blk_cell BK107.out 3).trans rfl
           have hcz99_4 : wc.cell? ⟨gb107, 4, none⟩ = some (.slice none 0 0) := (blk_cell BK107.out 4).trans rfl
           have hcz99_5 : wc.cell? ⟨gb107, 5, none⟩ = some (.slice none 0 0) := (blk_cell BK107.out 5).trans rfl
           have hfz99_0 := blk_frozen BK107.out 0
           have hfz99_1 := blk_frozen BK107.out 1
           have hfz99_2 := blk_frozen BK107.out 2
           have hfz99_3 := blk_frozen BK107.out 3
           have hfz99_4 := blk_frozen BK107.out 4
           have hfz99_5 := blk_frozen BK107.out 5
           have hnb100 := NB108_106.out
           have hnc100 := NB106_108.out
           have hcz101_0 : wc.cell? ⟨gb108, 0, none⟩ = some (.int .i64 a0_0) := (blk_cell BK108.out 0).trans rfl
           have hcz101_1 : wc.cell? ⟨gb108, 1, none⟩ = some (.int .i64 x109001_2) := (blk_cell BK108.out 1).trans rfl
           have hcz101_2 : wc.cell? ⟨gb108, 2, none⟩ = some (.float .f64 x109002_2) := (blk_cell BK108.out 2).trans rfl
           have hcz101_3 : wc.cell? ⟨gb108, 3, none⟩ = some (.string x109003_2) := (blk_cell BK108.out 3).trans rfl
           have hcz101_4 : wc.cell? ⟨gb108, 4, none⟩ = some (.slice none 0 0) := (blk_cell BK108.out 4).trans rfl
           have hcz101_5 : wc.cell? ⟨gb108, 5, none⟩ = some (.slice none 0 0) := (blk_cell BK108.out 5).trans rfl
           have hfz101_0 := blk_frozen BK108.out 0
           have hfz101_1 := blk_frozen BK108.out 1
           have hfz101_2 := blk_frozen BK108.out 2
           have hfz101_3 := blk_frozen BK108.out 3
           have hfz101_4 := blk_frozen BK108.out 4
           have hfz101_5 := blk_frozen BK108.out 5
           go_wp2_with (first | ((with_reducible refine gate_callee (f := 31) rfl ?_); refine goesL_ (some 44) rfl rfl Try.func31 (by kernel_rfl) rfl #[.agg #[.int .i64 a0_0, .int .i64 a0_1, .float .f64 a0_2, .string a0_3, .slice none 0 0, .slice none 0 0], .agg #[.int .i64 a0_0, .int .i64 x109001_2, .float .f64 x109002_2, .string x109003_2, .slice none 0 0, .slice none 0 0]] rfl (by (try simp only [List.map_toArray, List.map_cons, List.map_nil]); first | done | rfl | (simp only [List.length_drop, List.length_take]; rfl)) ?_; (refine (spec_Bare.calls a0_0 a0_1 a0_2 a0_3 _ _ ([] : List ByteArray) _ _ ([] : List (S31)) a0_0 x109001_2 x109002_2 x109003_2 _ _ ([] : List ByteArray) _ _ ([] : List (S31)) true _ ?side1 ?side2 ?side3 ?side4 ?side5 ?side6 ?side7 ?side8 A46.out).mono ?_); (case side1 => exact Kd.C_nil _ _); (case side2 => exact Nat.le_refl _); (case side3 => exact Kd.C_nil _ _); (case side4 => exact Nat.le_refl _); (case side5 => exact Kd.C_nil _ _); (case side6 => exact Nat.le_refl _); (case side7 => exact Kd.C_nil _ _); (case side8 => exact Nat.le_refl _); rintro e w102 ⟨rfl, hb⟩; refine ⟨_, rfl, ?_⟩; have n0_ := Aside0.mk (blk_below (g := gb106) (o := .cells #[.int .i64 a0_0, .int .i64 a0_1, .float .f64 a0_2, .string a0_3, .slice A0_4 l0_4.length c0_4, .slice A0_5 l0_5.length c0_5] 31 (0, 0)) (by (with_reducible repeat first | apply blk_drewN | apply blk_drew | apply blk_alloc); exact BK106.out) hb); have n1_ := Aside0.mk (blk_below (g := gb107) (o := .cells #[.int .i64 a0_0, .int .i64 a0_1, .float .f64 a0_2, .string a0_3, .slice none 0 0, .slice none 0 0] 31 (0, 0)) (by (with_reducible repeat first | apply blk_drewN | apply blk_drew | apply blk_alloc); exact BK107.out) hb); have n2_ := Aside0.mk (blk_below (g := gb108) (o := .cells #[.int .i64 a0_0, .int .i64 x109001_2, .float .f64 x109002_2, .string x109003_2, .slice none 0 0, .slice none 0 0] 31 (0, 0)) (by (with_reducible repeat first | apply blk_drewN | apply blk_drew | apply blk_alloc); exact BK108.out) hb); have n3_ := Aside0.mk (below_step (by repeat (first | (with_reducible first | exact HB.out | apply below_alloc | apply pw_below_drewN | apply below_drew1 | refine below_set ?_ GE106.out | refine below_set ?_ GE107.out | refine below_set ?_ GE108.out) | exact HB.out)) hb); clear BK106; clear BK107; clear BK108; clear HB; have BK106 := n0_; have BK107 := n1_; have BK108 := n2_; have HB := n3_; clear n0_ n1_ n2_ n3_; (try clear hb); (try clear hb2); (try clear hk); (try clear hi); have hcz103_0 : w102.cell? ⟨gb106, 0, none⟩ = some (.int .i64 a0_0) := (blk_cell BK106.out 0).trans rfl; have hcz103_1 : w102.cell? ⟨gb106, 1, none⟩ = some (.int .i64 a0_1) := (blk_cell BK106.out 1).trans rfl; have hcz103_2 : w102.cell? ⟨gb106, 2, none⟩ = some (.float .f64 a0_2) := (blk_cell BK106.out 2).trans rfl; have hcz103_3 : w102.cell? ⟨gb106, 3, none⟩ = some (.string a0_3) := (blk_cell BK106.out 3).trans rfl; have hcz103_4 : w102.cell? ⟨gb106, 4, none⟩ = some (.slice A0_4 l0_4.length c0_4) := (blk_cell BK106.out 4).trans rfl; have hcz103_5 : w102.cell? ⟨gb106, 5, none⟩ = some (.slice A0_5 l0_5.length c0_5) := (blk_cell BK106.out 5).trans rfl; have hfz103_0 := blk_frozen BK106.out 0; have hfz103_1 := blk_frozen BK106.out 1; have hfz103_2 := blk_frozen BK106.out 2; have hfz103_3 := blk_frozen BK106.out 3; have hfz103_4 := blk_frozen BK106.out 4; have hfz103_5 := blk_frozen BK106.out 5))
           go_meet
           case rel => exact ⟨_, (true), (by first | rfl | (simp only [bytesLe_not]; done) | (simp; done) | (simp [*]; done)), H', ⟨by have := HJ2.out; first | omega | exact Nat.le_refl _⟩, ⟨by (with_reducible repeat first | apply blk_drewN | apply blk_drew | apply blk_alloc); exact BK106.out⟩, ⟨by (with_reducible repeat first | apply blk_drewN | apply blk_drew | apply blk_alloc); exact BK107.out⟩, ⟨by (with_reducible repeat first | apply blk_drewN | apply blk_drew | apply blk_alloc); exact BK108.out⟩, ⟨by repeat (first | (with_reducible first | exact HB.out | apply below_alloc | apply pw_below_drewN | apply below_drew1 | refine below_set ?_ GE106.out | refine below_set ?_ GE107.out | refine below_set ?_ GE108.out) | exact HB.out)⟩⟩
         ·
          rw [if_neg c96] at H
          have c96b0 : decide (0 < (l0_5.length : Int)) = false := decide_eq_false c96
          have c96b1 : decide (0 < l0_5.length) = false := decide_eq_false (by omega)
          clear c96
          by_cases c104 : (l0_5.length : Int) > 300
          ·
           rw [if_pos c104] at H
           have c104b0 : decide (300 < (l0_5.length : Int)) = true := decide_eq_true c104
           have c104b1 : decide (300 < l0_5.length) = true := decide_eq_true (by omega)
           clear c104
           as_aux_lemma =>
            have H' := Aside0.mk H
            clear H
            have hnb105 := NB107_106.out
            have hnc105 := NB106_107.out
            have hnb106 := NB107_108.out
            have hnc106 := NB108_107.out
            have hcz107_0 : wc.cell? ⟨gb107, 0, none⟩ = some (.int .i64 a0_0) := (blk_cell BK107.out 0).trans rfl
            have hcz107_1 : wc.cell? ⟨gb107, 1, none⟩ = some (.int .i64 a0_1) := (blk_cell BK107.out 1).trans rfl
            have hcz107_2 : wc.cell? ⟨gb107, 2, none⟩ = some (.float .f64 a0_2) := (blk_cell BK107.out 2).trans rfl
            have hcz107_3 : wc.cell? ⟨gb107, 3, none⟩ = some (.string a0_3) := (blk_cell BK107.out 3).trans rfl
            have hcz107_4 : wc.cell? ⟨gb107, 4, none⟩ = some (.slice none 0 0) := (blk_cell BK107.out 4).trans rfl
            have hcz107_5 : wc.cell? ⟨gb107, 5, none⟩ = some (.slice none 0 0) := (blk_cell BK107.out 5).trans rfl
            have hfz107_0 := blk_frozen BK107.out 0
            have hfz107_1 := blk_frozen BK107.out 1
            have hfz107_2 := blk_frozen BK107.out 2
            have hfz107_3 := blk_frozen BK107.out 3
            have hfz107_4 := blk_frozen BK107.out 4
            have hfz107_5 := blk_frozen BK107.out 5
            have hnb108 := NB108_106.out
            have hnc108 := NB106_108.out
            have hcz109_0 : wc.cell? ⟨gb108, 0, none⟩ = some (.int .i64 a0_0) := (blk_cell BK108.out 0).trans rfl
            have hcz109_1 : wc.cell? ⟨gb108, 1, none⟩ = some (.int .i64 x109001_2) := (blk_cell BK108.out 1).trans rfl
            have hcz109_2 : wc.cell? ⟨gb108, 2, none⟩ = some (.float .f64 x109002_2) := (blk_cell BK108.out 2).trans rfl
            have hcz109_3 : wc.cell? ⟨gb108, 3, none⟩ = some (.string x109003_2) := (blk_cell BK108.out 3).trans rfl
            have hcz109_4 : wc.cell? ⟨gb108, 4, none⟩ = some (.slice none 0 0) := (blk_cell BK108.out 4).trans rfl
            have hcz109_5 : wc.cell? ⟨gb108, 5, none⟩ = some (.slice none 0 0) := (blk_cell BK108.out 5).trans rfl
            have hfz109_0 := blk_frozen BK108.out 0
            have hfz109_1 := blk_frozen BK108.out 1
            have hfz109_2 := blk_frozen BK108.out 2
            have hfz109_3 := blk_frozen BK108.out 3
            have hfz109_4 := blk_frozen BK108.out 4
            have hfz109_5 := blk_frozen BK108.out 5
            go_wp2_with (first | ((with_reducible refine gate_callee (f := 31) rfl ?_); refine goesL_ (some 44) rfl rfl Try.func31 (by kernel_rfl) rfl #[.agg #[.int .i64 a0_0, .int .i64 a0_1, .float .f64 a0_2, .string a0_3, .slice none 0 0, .slice none 0 0], .agg #[.int .i64 a0_0, .int .i64 x109001_2, .float .f64 x109002_2, .string x109003_2, .slice none 0 0, .slice none 0 0]] rfl (by (try simp only [List.map_toArray, List.map_cons, List.map_nil]); first | done | rfl | (simp only [List.length_drop, List.length_take]; rfl)) ?_; (refine (spec_Bare.calls a0_0 a0_1 a0_2 a0_3 _ _ ([] : List ByteArray) _ _ ([] : List (S31)) a0_0 x109001_2 x109002_2 x109003_2 _ _ ([] : List ByteArray) _ _ ([] : List (S31)) true _ ?side1 ?side2 ?side3 ?side4 ?side5 ?side6 ?side7 ?side8 A46.out).mono ?_); (case side1 => exact Kd.C_nil _ _); (case side2 => exact Nat.le_refl _); (case side3 => exact Kd.C_nil _ _); (case side4 => exact Nat.le_refl _); (case side5 => exact Kd.C_nil _ _); (case side6 => exact Nat.le_refl _); (case side7 => exact Kd.C_nil _ _); (case side8 => exact Nat.le_refl _); rintro e w110 ⟨rfl, hb⟩; refine ⟨_, rfl, ?_⟩; have n0_ := Aside0.mk (blk_below (g := gb106) (o := .cells #[.int .i64 a0_0, .int .i64 a0_1, .float .f64 a0_2, .string a0_3, .slice A0_4 l0_4.length c0_4, .slice A0_5 l0_5.length c0_5] 31 (0, 0)) (by (with_reducible repeat first | apply blk_drewN | apply blk_drew | apply blk_alloc); exact BK106.out) hb); have n1_ := Aside0.mk (blk_below (g := gb107) (o := .cells #[.int .i64 a0_0, .int .i64 a0_1, .float .f64 a0_2, .string a0_3, .slice none 0 0, .slice none 0 0] 31 (0, 0)) (by (with_reducible repeat first | apply blk_drewN | apply blk_drew | apply blk_alloc); exact BK107.out) hb); have n2_ := Aside0.mk (blk_below (g := gb108) (o := .cells #[.int .i64 a0_0, .int .i64 x109001_2, .float .f64 x109002_2, .string x109003_2, .slice none 0 0, .slice none 0 0] 31 (0, 0)) (by (with_reducible repeat first | apply blk_drewN | apply blk_drew | apply blk_alloc); exact BK108.out) hb); have n3_ := Aside0.mk (below_step (by repeat (first | (with_reducible first | exact HB.out | apply below_alloc | apply pw_below_drewN | apply below_drew1 | refine below_set ?_ GE106.out | refine below_set ?_ GE107.out | refine below_set ?_ GE108.out) | exact HB.out)) hb); clear BK106; clear BK107; clear BK108; clear HB; have BK106 := n0_; have BK107 := n1_; have BK108 := n2_; have HB := n3_; clear n0_ n1_ n2_ n3_; (try clear hb); (try clear hb2); (try clear hk); (try clear hi); have hcz111_0 : w110.cell? ⟨gb106, 0, none⟩ = some (.int .i64 a0_0) := (blk_cell BK106.out 0).trans rfl; have hcz111_1 : w110.cell? ⟨gb106, 1, none⟩ = some (.int .i64 a0_1) := (blk_cell BK106.out 1).trans rfl; have hcz111_2 : w110.cell? ⟨gb106, 2, none⟩ = some (.float .f64 a0_2) := (blk_cell BK106.out 2).trans rfl; have hcz111_3 : w110.cell? ⟨gb106, 3, none⟩ = some (.string a0_3) := (blk_cell BK106.out 3).trans rfl; have hcz111_4 : w110.cell? ⟨gb106, 4, none⟩ = some (.slice A0_4 l0_4.length c0_4) := (blk_cell BK106.out 4).trans rfl; have hcz111_5 : w110.cell? ⟨gb106, 5, none⟩ = some (.slice A0_5 l0_5.length c0_5) := (blk_cell BK106.out 5).trans rfl; have hfz111_0 := blk_frozen BK106.out 0; have hfz111_1 := blk_frozen BK106.out 1; have hfz111_2 := blk_frozen BK106.out 2; have hfz111_3 := blk_frozen BK106.out 3; have hfz111_4 := blk_frozen BK106.out 4; have hfz111_5 := blk_frozen BK106.out 5))
            go_meet
            case rel => exact ⟨_, (true), (by first | rfl | (simp only [bytesLe_not]; done) | (simp; done) | (simp [*]; done)), H', ⟨by have := HJ2.out; first | omega | exact Nat.le_refl _⟩, ⟨by (with_reducible repeat first | apply blk_drewN | apply blk_drew | apply blk_alloc); exact BK106.out⟩, ⟨by (with_reducible repeat first | apply blk_drewN | apply blk_drew | apply blk_alloc); exact BK107.out⟩, ⟨by (with_reducible repeat first | apply blk_drewN | apply blk_drew | apply blk_alloc); exact BK108.out⟩, ⟨by repeat (first | (with_reducible first | exact HB.out | apply below_alloc | apply pw_below_drewN | apply below_drew1 | refine below_set ?_ GE106.out | refine below_set ?_ GE107.out | refine below_set ?_ GE108.out) | exact HB.out)⟩⟩
          ·
           rw [if_neg c104] at H
           have c104b0 : decide (300 < (l0_5.length : Int)) = false := decide_eq_false c104
           have c104b1 : decide (300 < l0_5.length) = false := decide_eq_false (by omega)
           clear c104
           as_aux_lemma =>
            have H' := Aside0.mk H
            clear H
            have hnb112 := NB107_106.out
            have hnc112 := NB106_107.out
            have hnb113 := NB107_108.out
            have hnc113 := NB108_107.out
            have hcz114_0 : wc.cell? ⟨gb107, 0, none⟩ = some (.int .i64 a0_0) := (blk_cell BK107.out 0).trans rfl
            have hcz114_1 : wc.cell? ⟨gb107, 1, none⟩ = some (.int .i64 a0_1) := (blk_cell BK107.out 1).trans rfl
            have hcz114_2 : wc.cell? ⟨gb107, 2, none⟩ = some (.float .f64 a0_2) := (blk_cell BK107.out 2).trans rfl
            have hcz114_3 : wc.cell? ⟨gb107, 3, none⟩ = some (.string a0_3) := (blk_cell BK107.out 3).trans rfl
            have hcz114_4 : wc.cell? ⟨gb107, 4, none⟩ = some (.slice none 0 0) := (blk_cell BK107.out 4).trans rfl
            have hcz114_5 : wc.cell? ⟨gb107, 5, none⟩ = some (.slice none 0 0) := (blk_cell BK107.out 5).trans rfl
            have hfz114_0 := blk_frozen BK107.out 0
            have hfz114_1 := blk_frozen BK107.out 1
            have hfz114_2 := blk_frozen BK107.out 2
            have hfz114_3 := blk_frozen BK107.out 3
            have hfz114_4 := blk_frozen BK107.out 4
            have hfz114_5 := blk_frozen BK107.out 5
            have hnb115 := NB108_106.out
            have hnc115 := NB106_108.out
            have hcz116_0 : wc.cell? ⟨gb108, 0, none⟩ = some (.int .i64 a0_0) := (blk_cell BK108.out 0).trans rfl
            have hcz116_1 : wc.cell? ⟨gb108, 1, none⟩ = some (.int .i64 x109001_2) := (blk_cell BK108.out 1).trans rfl
            have hcz116_2 : wc.cell? ⟨gb108, 2, none⟩ = some (.float .f64 x109002_2) := (blk_cell BK108.out 2).trans rfl
            have hcz116_3 : wc.cell? ⟨gb108, 3, none⟩ = some (.string x109003_2) := (blk_cell BK108.out 3).trans rfl
            have hcz116_4 : wc.cell? ⟨gb108, 4, none⟩ = some (.slice none 0 0) := (blk_cell BK108.out 4).trans rfl
            have hcz116_5 : wc.cell? ⟨gb108, 5, none⟩ = some (.slice none 0 0) := (blk_cell BK108.out 5).trans rfl
            have hfz116_0 := blk_frozen BK108.out 0
            have hfz116_1 := blk_frozen BK108.out 1
            have hfz116_2 := blk_frozen BK108.out 2
            have hfz116_3 := blk_frozen BK108.out 3
            have hfz116_4 := blk_frozen BK108.out 4
            have hfz116_5 := blk_frozen BK108.out 5
            go_wp2_with (first | ((with_reducible refine gate_callee (f := 31) rfl ?_); refine goesL_ (some 44) rfl rfl Try.func31 (by kernel_rfl) rfl #[.agg #[.int .i64 a0_0, .int .i64 a0_1, .float .f64 a0_2, .string a0_3, .slice none 0 0, .slice none 0 0], .agg #[.int .i64 a0_0, .int .i64 x109001_2, .float .f64 x109002_2, .string x109003_2, .slice none 0 0, .slice none 0 0]] rfl (by (try simp only [List.map_toArray, List.map_cons, List.map_nil]); first | done | rfl | (simp only [List.length_drop, List.length_take]; rfl)) ?_; (refine (spec_Bare.calls a0_0 a0_1 a0_2 a0_3 _ _ ([] : List ByteArray) _ _ ([] : List (S31)) a0_0 x109001_2 x109002_2 x109003_2 _ _ ([] : List ByteArray) _ _ ([] : List (S31)) true _ ?side1 ?side2 ?side3 ?side4 ?side5 ?side6 ?side7 ?side8 A46.out).mono ?_); (case side1 => exact Kd.C_nil _ _); (case side2 => exact Nat.le_refl _); (case side3 => exact Kd.C_nil _ _); (case side4 => exact Nat.le_refl _); (case side5 => exact Kd.C_nil _ _); (case side6 => exact Nat.le_refl _); (case side7 => exact Kd.C_nil _ _); (case side8 => exact Nat.le_refl _); rintro e w117 ⟨rfl, hb⟩; refine ⟨_, rfl, ?_⟩; have n0_ := Aside0.mk (blk_below (g := gb106) (o := .cells #[.int .i64 a0_0, .int .i64 a0_1, .float .f64 a0_2, .string a0_3, .slice A0_4 l0_4.length c0_4, .slice A0_5 l0_5.length c0_5] 31 (0, 0)) (by (with_reducible repeat first | apply blk_drewN | apply blk_drew | apply blk_alloc); exact BK106.out) hb); have n1_ := Aside0.mk (blk_below (g := gb107) (o := .cells #[.int .i64 a0_0, .int .i64 a0_1, .float .f64 a0_2, .string a0_3, .slice none 0 0, .slice none 0 0] 31 (0, 0)) (by (with_reducible repeat first | apply blk_drewN | apply blk_drew | apply blk_alloc); exact BK107.out) hb); have n2_ := Aside0.mk (blk_below (g := gb108) (o := .cells #[.int .i64 a0_0, .int .i64 x109001_2, .float .f64 x109002_2, .string x109003_2, .slice none 0 0, .slice none 0 0] 31 (0, 0)) (by (with_reducible repeat first | apply blk_drewN | apply blk_drew | apply blk_alloc); exact BK108.out) hb); have n3_ := Aside0.mk (below_step (by repeat (first | (with_reducible first | exact HB.out | apply below_alloc | apply pw_below_drewN | apply below_drew1 | refine below_set ?_ GE106.out | refine below_set ?_ GE107.out | refine below_set ?_ GE108.out) | exact HB.out)) hb); clear BK106; clear BK107; clear BK108; clear HB; have BK106 := n0_; have BK107 := n1_; have BK108 := n2_; have HB := n3_; clear n0_ n1_ n2_ n3_; (try clear hb); (try clear hb2); (try clear hk); (try clear hi); have hcz118_0 : w117.cell? ⟨gb106, 0, none⟩ = some (.int .i64 a0_0) := (blk_cell BK106.out 0).trans rfl; have hcz118_1 : w117.cell? ⟨gb106, 1, none⟩ = some (.int .i64 a0_1) := (blk_cell BK106.out 1).trans rfl; have hcz118_2 : w117.cell? ⟨gb106, 2, none⟩ = some (.float .f64 a0_2) := (blk_cell BK106.out 2).trans rfl; have hcz118_3 : w117.cell? ⟨gb106, 3, none⟩ = some (.string a0_3) := (blk_cell BK106.out 3).trans rfl; have hcz118_4 : w117.cell? ⟨gb106, 4, none⟩ = some (.slice A0_4 l0_4.length c0_4) := (blk_cell BK106.out 4).trans rfl; have hcz118_5 : w117.cell? ⟨gb106, 5, none⟩ = some (.slice A0_5 l0_5.length c0_5) := (blk_cell BK106.out 5).trans rfl; have hfz118_0 := blk_frozen BK106.out 0; have hfz118_1 := blk_frozen BK106.out 1; have hfz118_2 := blk_frozen BK106.out 2; have hfz118_3 := blk_frozen BK106.out 3; have hfz118_4 := blk_frozen BK106.out 4; have hfz118_5 := blk_frozen BK106.out 5))
            go_meet
            case rel => exact ⟨_, ((a1 == 0)), (by first | rfl | (simp only [bytesLe_not]; done) | (simp; done) | (simp [*]; done)), H', ⟨by have := HJ2.out; first | omega | exact Nat.le_refl _⟩, ⟨by (with_reducible repeat first | apply blk_drewN | apply blk_drew | apply blk_alloc); exact BK106.out⟩, ⟨by (with_reducible repeat first | apply blk_drewN | apply blk_drew | apply blk_alloc); exact BK107.out⟩, ⟨by (with_reducible repeat first | apply blk_drewN | apply blk_drew | apply blk_alloc); exact BK108.out⟩, ⟨by repeat (first | (with_reducible first | exact HB.out | apply below_alloc | apply pw_below_drewN | apply below_drew1 | refine below_set ?_ GE106.out | refine below_set ?_ GE107.out | refine below_set ?_ GE108.out) | exact HB.out)⟩⟩
    ·
     replace c47 := Bool.eq_false_iff.mpr c47
     subst c47
     have H1 : (spec_right.j3 kj2 a1 true a0_0 a0_1 a0_2 a0_3 l0_4 l0_5) = some r := by rw [if_neg (show ¬ (false = true) by decide)] at H; exact H
     clear H
     have H := H1
     clear H1
     as_aux_lemma =>
      have H' := Aside0.mk H
      clear H
      have hnb119 := NB107_106.out
      have hnc119 := NB106_107.out
      have hnb120 := NB107_108.out
      have hnc120 := NB108_107.out
      have hcz121_0 : wc.cell? ⟨gb107, 0, none⟩ = some (.int .i64 a0_0) := (blk_cell BK107.out 0).trans rfl
      have hcz121_1 : wc.cell? ⟨gb107, 1, none⟩ = some (.int .i64 a0_1) := (blk_cell BK107.out 1).trans rfl
      have hcz121_2 : wc.cell? ⟨gb107, 2, none⟩ = some (.float .f64 a0_2) := (blk_cell BK107.out 2).trans rfl
      have hcz121_3 : wc.cell? ⟨gb107, 3, none⟩ = some (.string a0_3) := (blk_cell BK107.out 3).trans rfl
      have hcz121_4 : wc.cell? ⟨gb107, 4, none⟩ = some (.slice none 0 0) := (blk_cell BK107.out 4).trans rfl
      have hcz121_5 : wc.cell? ⟨gb107, 5, none⟩ = some (.slice none 0 0) := (blk_cell BK107.out 5).trans rfl
      have hfz121_0 := blk_frozen BK107.out 0
      have hfz121_1 := blk_frozen BK107.out 1
      have hfz121_2 := blk_frozen BK107.out 2
      have hfz121_3 := blk_frozen BK107.out 3
      have hfz121_4 := blk_frozen BK107.out 4
      have hfz121_5 := blk_frozen BK107.out 5
      have hnb122 := NB108_106.out
      have hnc122 := NB106_108.out
      have hcz123_0 : wc.cell? ⟨gb108, 0, none⟩ = some (.int .i64 a0_0) := (blk_cell BK108.out 0).trans rfl
      have hcz123_1 : wc.cell? ⟨gb108, 1, none⟩ = some (.int .i64 x109001_2) := (blk_cell BK108.out 1).trans rfl
      have hcz123_2 : wc.cell? ⟨gb108, 2, none⟩ = some (.float .f64 x109002_2) := (blk_cell BK108.out 2).trans rfl
      have hcz123_3 : wc.cell? ⟨gb108, 3, none⟩ = some (.string x109003_2) := (blk_cell BK108.out 3).trans rfl
      have hcz123_4 : wc.cell? ⟨gb108, 4, none⟩ = some (.slice none 0 0) := (blk_cell BK108.out 4).trans rfl
      have hcz123_5 : wc.cell? ⟨gb108, 5, none⟩ = some (.slice none 0 0) := (blk_cell BK108.out 5).trans rfl
      have hfz123_0 := blk_frozen BK108.out 0
      have hfz123_1 := blk_frozen BK108.out 1
      have hfz123_2 := blk_frozen BK108.out 2
      have hfz123_3 := blk_frozen BK108.out 3
      have hfz123_4 := blk_frozen BK108.out 4
      have hfz123_5 := blk_frozen BK108.out 5
      go_wp2_with (first | ((with_reducible refine gate_callee (f := 31) rfl ?_); refine goesL_ (some 44) rfl rfl Try.func31 (by kernel_rfl) rfl #[.agg #[.int .i64 a0_0, .int .i64 a0_1, .float .f64 a0_2, .string a0_3, .slice none 0 0, .slice none 0 0], .agg #[.int .i64 a0_0, .int .i64 x109001_2, .float .f64 x109002_2, .string x109003_2, .slice none 0 0, .slice none 0 0]] rfl (by (try simp only [List.map_toArray, List.map_cons, List.map_nil]); first | done | rfl | (simp only [List.length_drop, List.length_take]; rfl)) ?_; (refine (spec_Bare.calls a0_0 a0_1 a0_2 a0_3 _ _ ([] : List ByteArray) _ _ ([] : List (S31)) a0_0 x109001_2 x109002_2 x109003_2 _ _ ([] : List ByteArray) _ _ ([] : List (S31)) false _ ?side1 ?side2 ?side3 ?side4 ?side5 ?side6 ?side7 ?side8 A46.out).mono ?_); (case side1 => exact Kd.C_nil _ _); (case side2 => exact Nat.le_refl _); (case side3 => exact Kd.C_nil _ _); (case side4 => exact Nat.le_refl _); (case side5 => exact Kd.C_nil _ _); (case side6 => exact Nat.le_refl _); (case side7 => exact Kd.C_nil _ _); (case side8 => exact Nat.le_refl _); rintro e w124 ⟨rfl, hb⟩; refine ⟨_, rfl, ?_⟩; have n0_ := Aside0.mk (blk_below (g := gb106) (o := .cells #[.int .i64 a0_0, .int .i64 a0_1, .float .f64 a0_2, .string a0_3, .slice A0_4 l0_4.length c0_4, .slice A0_5 l0_5.length c0_5] 31 (0, 0)) (by (with_reducible repeat first | apply blk_drewN | apply blk_drew | apply blk_alloc); exact BK106.out) hb); have n1_ := Aside0.mk (blk_below (g := gb107) (o := .cells #[.int .i64 a0_0, .int .i64 a0_1, .float .f64 a0_2, .string a0_3, .slice none 0 0, .slice none 0 0] 31 (0, 0)) (by (with_reducible repeat first | apply blk_drewN | apply blk_drew | apply blk_alloc); exact BK107.out) hb); have n2_ := Aside0.mk (blk_below (g := gb108) (o := .cells #[.int .i64 a0_0, .int .i64 x109001_2, .float .f64 x109002_2, .string x109003_2, .slice none 0 0, .slice none 0 0] 31 (0, 0)) (by (with_reducible repeat first | apply blk_drewN | apply blk_drew | apply blk_alloc); exact BK108.out) hb); have n3_ := Aside0.mk (below_step (by repeat (first | (with_reducible first | exact HB.out | apply below_alloc | apply pw_below_drewN | apply below_drew1 | refine below_set ?_ GE106.out | refine below_set ?_ GE107.out | refine below_set ?_ GE108.out) | exact HB.out)) hb); clear BK106; clear BK107; clear BK108; clear HB; have BK106 := n0_; have BK107 := n1_; have BK108 := n2_; have HB := n3_; clear n0_ n1_ n2_ n3_; (try clear hb); (try clear hb2); (try clear hk); (try clear hi)))
      go_meet
      case rel => exact ⟨_, (true), (by first | rfl | (simp only [bytesLe_not]; done) | (simp; done) | (simp [*]; done)), H', ⟨by have := HJ2.out; first | omega | exact Nat.le_refl _⟩, ⟨by (with_reducible repeat first | apply blk_drewN | apply blk_drew | apply blk_alloc); exact BK106.out⟩, ⟨by (with_reducible repeat first | apply blk_drewN | apply blk_drew | apply blk_alloc); exact BK107.out⟩, ⟨by (with_reducible repeat first | apply blk_drewN | apply blk_drew | apply blk_alloc); exact BK108.out⟩, ⟨by repeat (first | (with_reducible first | exact HB.out | apply below_alloc | apply pw_below_drewN | apply below_drew1 | refine below_set ?_ GE106.out | refine below_set ?_ GE107.out | refine below_set ?_ GE108.out) | exact HB.out)⟩⟩
   case rest =>
    clear HC45
    try clear hfz13_0 hfz13_1 hfz13_2 hfz13_3 hfz13_4 hfz13_5
    try clear hfz14_0 hfz14_1 hfz14_2 hfz14_3 hfz14_4 hfz14_5
    try clear hfz22_0 hfz22_1 hfz22_2 hfz22_3 hfz22_4 hfz22_5
    try clear c1
    try clear c10
    try clear c100
    try clear c104
    try clear c104b0
    try clear c104b1
    try clear c105
    try clear c106
    try clear c108
    try clear c11
    try clear c112
    try clear c113
    try clear c115
    try clear c119
    try clear c12
    try clear c120
    try clear c122
    try clear c3
    try clear c31
    try clear c4
    try clear c47
    try clear c48
    try clear c48b0
    try clear c48b1
    try clear c49
    try clear c5
    try clear c50
    try clear c52
    try clear c56
    try clear c56b0
    try clear c56b1
    try clear c57
    try clear c58
    try clear c6
    try clear c60
    try clear c64
    try clear c64b0
    try clear c64b1
    try clear c65
    try clear c65b0
    try clear c65b1
    try clear c66
    try clear c67
    try clear c69
    try clear c7
    try clear c73
    try clear c74
    try clear c76
    try clear c8
    try clear c80
    try clear c80b0
    try clear c80b1
    try clear c81
    try clear c81b0
    try clear c81b1
    try clear c82
    try clear c83
    try clear c85
    try clear c89
    try clear c9
    try clear c90
    try clear c92
    try clear c96
    try clear c96b0
    try clear c96b1
    try clear c97
    try clear c98
    try clear p2
    try clear p2
    obtain ⟨kq, x85_44, rfl, HA, HJ44, BK106, BK107, BK108, HB⟩ := hcut
    cases kq with
    | zero => exact absurd HA.out (by simp [spec_right.j3])
    | succ kj44 =>
     have H := HA.out
     clear HA
     simp only [spec_right.j3] at H
     by_cases c125 : x85_44 = true
     ·
      subst c125
      have H1 : (some false) = some r := by rw [if_pos rfl] at H; exact H
      clear H
      have H := H1
      clear H1
      as_aux_lemma =>
       obtain rfl := Option.some.inj H
       go_wp2
       go_ret
       exact ⟨by first | rfl | (simp [errW_none, errW_some] <;> rfl) | (simp [*, errW_none, errW_some] <;> rfl), by repeat (first | (with_reducible first | exact HB.out | apply below_alloc | apply pw_below_drewN | apply below_drew1 | refine below_set ?_ GE106.out | refine below_set ?_ GE107.out | refine below_set ?_ GE108.out) | exact HB.out)⟩
     ·
      replace c125 := Bool.eq_false_iff.mpr c125
      subst c125
      have H1 : (if a0_0 = 7 then (spec_right.j4 kj44 a1 ((l0_4.length : Int) != (l0_5.length : Int)) a0_0 a0_1 a0_2 a0_3 l0_4 l0_5) else (if (l0_4.length : Int) > 0 then (spec_right.j4 kj44 a1 true a0_0 a0_1 a0_2 a0_3 l0_4 l0_5) else (spec_right.j4 kj44 a1 false a0_0 a0_1 a0_2 a0_3 l0_4 l0_5))) = some r := by rw [if_neg (show ¬ (false = true) by decide)] at H; exact H
      clear H
      have H := H1
      clear H1
      have HC126 := Aside0.mk H
      clear H
      go_upto_region 20 with (fail)
      go_cut [108] (fun v108 wc => ∃ (kq : Nat) (x108_125 : Bool), v108 = .bool x108_125 ∧ Aside0 (spec_right.j4 kq a1 x108_125 a0_0 a0_1 a0_2 a0_3 l0_4 l0_5 = some r) ∧ Aside0 (kq ≤ kj44) ∧ Aside0 (wc.heap[gb106]? = some (.cells #[.int .i64 a0_0, .int .i64 a0_1, .float .f64 a0_2, .string a0_3, (.slice A0_4 l0_4.length c0_4), (.slice A0_5 l0_5.length c0_5)] 31 (0, 0))) ∧ Aside0 (wc.heap[gb107]? = some (.cells #[.int .i64 a0_0, .int .i64 a0_1, .float .f64 a0_2, .string a0_3, (.slice none 0 0), (.slice none 0 0)] 31 (0, 0))) ∧ Aside0 (wc.heap[gb108]? = some (.cells #[.int .i64 a0_0, .int .i64 x109001_2, .float .f64 x109002_2, .string x109003_2, (.slice none 0 0), (.slice none 0 0)] 31 (0, 0))) ∧ Aside0 (Below w.heap.size w wc))
      case first =>
       have H := HC126.out
       clear HC126
       by_cases c127 : a0_0 = 7
       ·
        rw [if_pos c127] at H
        have c127b0 : (a0_0 == 7) = true := beq_iff_eq.mpr c127
        have c127b1 : (a0_0 != 7) = false := bne_eq_false_iff_eq.mpr c127
        clear c127
        (first | rw [c127b0] | (simp only [i64_w, i32_w]; rw [c127b0]) | skip)
        as_aux_lemma =>
         have H' := Aside0.mk H
         clear H
         have hnb128 := NB106_107.out
         have hnc128 := NB107_106.out
         have hnb129 := NB106_108.out
         have hnc129 := NB108_106.out
         have hcz130_0 : wc.cell? ⟨gb106, 0, none⟩ = some (.int .i64 a0_0) := (blk_cell BK106.out 0).trans rfl
         have hcz130_1 : wc.cell? ⟨gb106, 1, none⟩ = some (.int .i64 a0_1) := (blk_cell BK106.out 1).trans rfl
         have hcz130_2 : wc.cell? ⟨gb106, 2, none⟩ = some (.float .f64 a0_2) := (blk_cell BK106.out 2).trans rfl
         have hcz130_3 : wc.cell? ⟨gb106, 3, none⟩ = some (.string a0_3) := (blk_cell BK106.out 3).trans rfl
         have hcz130_4 : wc.cell? ⟨gb106, 4, none⟩ = some (.slice A0_4 l0_4.length c0_4) := (blk_cell BK106.out 4).trans rfl
         have hcz130_5 : wc.cell? ⟨gb106, 5, none⟩ = some (.slice A0_5 l0_5.length c0_5) := (blk_cell BK106.out 5).trans rfl
         have hfz130_0 := blk_frozen BK106.out 0
         have hfz130_1 := blk_frozen BK106.out 1
         have hfz130_2 := blk_frozen BK106.out 2
         have hfz130_3 := blk_frozen BK106.out 3
         have hfz130_4 := blk_frozen BK106.out 4
         have hfz130_5 := blk_frozen BK106.out 5
         go_wp2
         go_meet
         case rel => exact ⟨_, (((l0_4.length : Int) != (l0_5.length : Int))), (by first | rfl | (simp only [bytesLe_not]; done) | (simp; done) | (simp [*]; done)), H', ⟨by have := HJ2.out; have := HJ44.out; first | omega | exact Nat.le_refl _⟩, ⟨by (with_reducible repeat first | apply blk_drewN | apply blk_drew | apply blk_alloc); exact BK106.out⟩, ⟨by (with_reducible repeat first | apply blk_drewN | apply blk_drew | apply blk_alloc); exact BK107.out⟩, ⟨by (with_reducible repeat first | apply blk_drewN | apply blk_drew | apply blk_alloc); exact BK108.out⟩, ⟨by repeat (first | (with_reducible first | exact HB.out | apply below_alloc | apply pw_below_drewN | apply below_drew1 | refine below_set ?_ GE106.out | refine below_set ?_ GE107.out | refine below_set ?_ GE108.out) | exact HB.out)⟩⟩
       ·
        rw [if_neg c127] at H
        have c127b0 : (a0_0 == 7) = false := beq_eq_false_iff_ne.mpr c127
        have c127b1 : (a0_0 != 7) = true := bne_iff_ne.mpr c127
        (first | rw [c127b0] | (simp only [i64_w, i32_w]; rw [c127b0]) | skip)
        by_cases c131 : (l0_4.length : Int) > 0
        ·
         rw [if_pos c131] at H
         have c131b0 : decide (0 < (l0_4.length : Int)) = true := decide_eq_true c131
         have c131b1 : decide (0 < l0_4.length) = true := decide_eq_true (by omega)
         clear c131
         as_aux_lemma =>
          have H' := Aside0.mk H
          clear H
          have hnb132 := NB106_107.out
          have hnc132 := NB107_106.out
          have hnb133 := NB106_108.out
          have hnc133 := NB108_106.out
          have hcz134_0 : wc.cell? ⟨gb106, 0, none⟩ = some (.int .i64 a0_0) := (blk_cell BK106.out 0).trans rfl
          have hcz134_1 : wc.cell? ⟨gb106, 1, none⟩ = some (.int .i64 a0_1) := (blk_cell BK106.out 1).trans rfl
          have hcz134_2 : wc.cell? ⟨gb106, 2, none⟩ = some (.float .f64 a0_2) := (blk_cell BK106.out 2).trans rfl
          have hcz134_3 : wc.cell? ⟨gb106, 3, none⟩ = some (.string a0_3) := (blk_cell BK106.out 3).trans rfl
          have hcz134_4 : wc.cell? ⟨gb106, 4, none⟩ = some (.slice A0_4 l0_4.length c0_4) := (blk_cell BK106.out 4).trans rfl
          have hcz134_5 : wc.cell? ⟨gb106, 5, none⟩ = some (.slice A0_5 l0_5.length c0_5) := (blk_cell BK106.out 5).trans rfl
          have hfz134_0 := blk_frozen BK106.out 0
          have hfz134_1 := blk_frozen BK106.out 1
          have hfz134_2 := blk_frozen BK106.out 2
          have hfz134_3 := blk_frozen BK106.out 3
          have hfz134_4 := blk_frozen BK106.out 4
          have hfz134_5 := blk_frozen BK106.out 5
          go_wp2
          go_meet
          case rel => exact ⟨_, (true), (by first | rfl | (simp only [bytesLe_not]; done) | (simp; done) | (simp [*]; done)), H', ⟨by have := HJ2.out; have := HJ44.out; first | omega | exact Nat.le_refl _⟩, ⟨by (with_reducible repeat first | apply blk_drewN | apply blk_drew | apply blk_alloc); exact BK106.out⟩, ⟨by (with_reducible repeat first | apply blk_drewN | apply blk_drew | apply blk_alloc); exact BK107.out⟩, ⟨by (with_reducible repeat first | apply blk_drewN | apply blk_drew | apply blk_alloc); exact BK108.out⟩, ⟨by repeat (first | (with_reducible first | exact HB.out | apply below_alloc | apply pw_below_drewN | apply below_drew1 | refine below_set ?_ GE106.out | refine below_set ?_ GE107.out | refine below_set ?_ GE108.out) | exact HB.out)⟩⟩
        ·
         rw [if_neg c131] at H
         have c131b0 : decide (0 < (l0_4.length : Int)) = false := decide_eq_false c131
         have c131b1 : decide (0 < l0_4.length) = false := decide_eq_false (by omega)
         clear c131
         as_aux_lemma =>
          have H' := Aside0.mk H
          clear H
          have hnb135 := NB106_107.out
          have hnc135 := NB107_106.out
          have hnb136 := NB106_108.out
          have hnc136 := NB108_106.out
          have hcz137_0 : wc.cell? ⟨gb106, 0, none⟩ = some (.int .i64 a0_0) := (blk_cell BK106.out 0).trans rfl
          have hcz137_1 : wc.cell? ⟨gb106, 1, none⟩ = some (.int .i64 a0_1) := (blk_cell BK106.out 1).trans rfl
          have hcz137_2 : wc.cell? ⟨gb106, 2, none⟩ = some (.float .f64 a0_2) := (blk_cell BK106.out 2).trans rfl
          have hcz137_3 : wc.cell? ⟨gb106, 3, none⟩ = some (.string a0_3) := (blk_cell BK106.out 3).trans rfl
          have hcz137_4 : wc.cell? ⟨gb106, 4, none⟩ = some (.slice A0_4 l0_4.length c0_4) := (blk_cell BK106.out 4).trans rfl
          have hcz137_5 : wc.cell? ⟨gb106, 5, none⟩ = some (.slice A0_5 l0_5.length c0_5) := (blk_cell BK106.out 5).trans rfl
          have hfz137_0 := blk_frozen BK106.out 0
          have hfz137_1 := blk_frozen BK106.out 1
          have hfz137_2 := blk_frozen BK106.out 2
          have hfz137_3 := blk_frozen BK106.out 3
          have hfz137_4 := blk_frozen BK106.out 4
          have hfz137_5 := blk_frozen BK106.out 5
          go_wp2
          go_meet
          case rel => exact ⟨_, (false), (by first | rfl | (simp only [bytesLe_not]; done) | (simp; done) | (simp [*]; done)), H', ⟨by have := HJ2.out; have := HJ44.out; first | omega | exact Nat.le_refl _⟩, ⟨by (with_reducible repeat first | apply blk_drewN | apply blk_drew | apply blk_alloc); exact BK106.out⟩, ⟨by (with_reducible repeat first | apply blk_drewN | apply blk_drew | apply blk_alloc); exact BK107.out⟩, ⟨by (with_reducible repeat first | apply blk_drewN | apply blk_drew | apply blk_alloc); exact BK108.out⟩, ⟨by repeat (first | (with_reducible first | exact HB.out | apply below_alloc | apply pw_below_drewN | apply below_drew1 | refine below_set ?_ GE106.out | refine below_set ?_ GE107.out | refine below_set ?_ GE108.out) | exact HB.out)⟩⟩
      case rest =>
       clear HC126
       try clear hfz13_0 hfz13_1 hfz13_2 hfz13_3 hfz13_4 hfz13_5
       try clear hfz14_0 hfz14_1 hfz14_2 hfz14_3 hfz14_4 hfz14_5
       try clear hfz22_0 hfz22_1 hfz22_2 hfz22_3 hfz22_4 hfz22_5
       try clear c1
       try clear c12
       try clear c125
       try clear c127
       try clear c127b0
       try clear c127b1
       try clear c128
       try clear c129
       try clear c13
       try clear c131
       try clear c131b0
       try clear c131b1
       try clear c132
       try clear c133
       try clear c135
       try clear c136
       try clear p2
       try clear p2
       obtain ⟨kq, x108_125, rfl, HA, HJ125, BK106, BK107, BK108, HB⟩ := hcut
       cases kq with
       | zero => exact absurd HA.out (by simp [spec_right.j4])
       | succ kj125 =>
        have H := HA.out
        clear HA
        simp only [spec_right.j4] at H
        by_cases c138 : x108_125 = true
        ·
         subst c138
         have H1 : (some false) = some r := by rw [if_pos rfl] at H; exact H
         clear H
         have H := H1
         clear H1
         as_aux_lemma =>
          obtain rfl := Option.some.inj H
          go_wp2
          go_ret
          exact ⟨by first | rfl | (simp [errW_none, errW_some] <;> rfl) | (simp [*, errW_none, errW_some] <;> rfl), by repeat (first | (with_reducible first | exact HB.out | apply below_alloc | apply pw_below_drewN | apply below_drew1 | refine below_set ?_ GE106.out | refine below_set ?_ GE107.out | refine below_set ?_ GE108.out) | exact HB.out)⟩
        ·
         replace c138 := Bool.eq_false_iff.mpr c138
         subst c138
         have H1 : (spec_right.l0 kj125 a1 0 a0_0 a0_1 a0_2 a0_3 l0_4 l0_5) = some r := by rw [if_neg (show ¬ (false = true) by decide)] at H; exact H
         clear H
         have H := H1
         clear H1
         have H' := Aside0.mk H
         clear H
         go_wp2
         go_loopg [7] kj125 (fun kq v7 w' => ∃ (x7_4 : Int), v7 = .int .i64 x7_4 ∧ Aside0 (spec_right.l0 kq a1 x7_4 a0_0 a0_1 a0_2 a0_3 l0_4 l0_5 = some r) ∧ Aside0 (kq ≤ kj125) ∧ Aside0 (w'.heap[gb106]? = some (.cells #[.int .i64 a0_0, .int .i64 a0_1, .float .f64 a0_2, .string a0_3, (.slice A0_4 l0_4.length c0_4), (.slice A0_5 l0_5.length c0_5)] 31 (0, 0))) ∧ Aside0 (w'.heap[gb107]? = some (.cells #[.int .i64 a0_0, .int .i64 a0_1, .float .f64 a0_2, .string a0_3, (.slice none 0 0), (.slice none 0 0)] 31 (0, 0))) ∧ Aside0 (w'.heap[gb108]? = some (.cells #[.int .i64 a0_0, .int .i64 x109001_2, .float .f64 x109002_2, .string x109003_2, (.slice none 0 0), (.slice none 0 0)] 31 (0, 0))) ∧ Aside0 (Below w.heap.size w w'))
         case atStart => exact ⟨(0), (by first | rfl | (simp only [bytesLe_not]; done) | (simp; done) | (simp [*]; done)), H', ⟨Nat.le_refl _⟩, ⟨by (with_reducible repeat first | apply blk_drewN | apply blk_drew | apply blk_alloc); exact BK106.out⟩, ⟨by (with_reducible repeat first | apply blk_drewN | apply blk_drew | apply blk_alloc); exact BK107.out⟩, ⟨by (with_reducible repeat first | apply blk_drewN | apply blk_drew | apply blk_alloc); exact BK108.out⟩, ⟨by repeat (first | (with_reducible first | exact HB.out | apply below_alloc | apply pw_below_drewN | apply below_drew1 | refine below_set ?_ GE106.out | refine below_set ?_ GE107.out | refine below_set ?_ GE108.out) | exact HB.out)⟩⟩
         case round =>
          clear H'
          try clear hfz13_0 hfz13_1 hfz13_2 hfz13_3 hfz13_4 hfz13_5
          try clear hfz14_0 hfz14_1 hfz14_2 hfz14_3 hfz14_4 hfz14_5
          try clear hfz22_0 hfz22_1 hfz22_2 hfz22_3 hfz22_4 hfz22_5
          try clear c1
          try clear c12
          try clear c125
          try clear c127
          try clear c127b0
          try clear c127b1
          try clear c128
          try clear c129
          try clear c13
          try clear c131
          try clear c131b0
          try clear c131b1
          try clear c132
          try clear c133
          try clear c135
          try clear c136
          try clear c138
          try clear p2
          try clear p2
          obtain ⟨x7_4, rfl, HA, HK4, BK106, BK107, BK108, HB⟩ := hrel
          cases gk with
          | zero => exact absurd HA.out (by simp [spec_right.l0])
          | succ k4 =>
           have H := HA.out
           clear HA
           simp only [spec_right.l0] at H
           by_cases c139 : x7_4 < (l0_5.length : Int)
           ·
            rw [if_pos c139] at H
            have c139b0 : decide (x7_4 < (l0_5.length : Int)) = true := decide_eq_true c139
            clear c139
            have HC140 := Aside0.mk H
            clear H
            have hnb141 := NB106_107.out
            have hnc141 := NB107_106.out
            have hnb142 := NB106_108.out
            have hnc142 := NB108_106.out
            have hcz143_0 : wr.cell? ⟨gb106, 0, none⟩ = some (.int .i64 a0_0) := (blk_cell BK106.out 0).trans rfl
            have hcz143_1 : wr.cell? ⟨gb106, 1, none⟩ = some (.int .i64 a0_1) := (blk_cell BK106.out 1).trans rfl
            have hcz143_2 : wr.cell? ⟨gb106, 2, none⟩ = some (.float .f64 a0_2) := (blk_cell BK106.out 2).trans rfl
            have hcz143_3 : wr.cell? ⟨gb106, 3, none⟩ = some (.string a0_3) := (blk_cell BK106.out 3).trans rfl
            have hcz143_4 : wr.cell? ⟨gb106, 4, none⟩ = some (.slice A0_4 l0_4.length c0_4) := (blk_cell BK106.out 4).trans rfl
            have hcz143_5 : wr.cell? ⟨gb106, 5, none⟩ = some (.slice A0_5 l0_5.length c0_5) := (blk_cell BK106.out 5).trans rfl
            go_upto_region 25 with (fail)
            go_cut [156] (fun v156 wc => ∃ (kq : Nat) (x156_139 : Bool), v156 = .bool x156_139 ∧ Aside0 (spec_right.j6 kq a1 x7_4 x156_139 a0_0 a0_1 a0_2 a0_3 l0_4 l0_5 = some r) ∧ Aside0 (kq ≤ k4) ∧ Aside0 (wc.heap[gb106]? = some (.cells #[.int .i64 a0_0, .int .i64 a0_1, .float .f64 a0_2, .string a0_3, (.slice A0_4 l0_4.length c0_4), (.slice A0_5 l0_5.length c0_5)] 31 (0, 0))) ∧ Aside0 (wc.heap[gb107]? = some (.cells #[.int .i64 a0_0, .int .i64 a0_1, .float .f64 a0_2, .string a0_3, (.slice none 0 0), (.slice none 0 0)] 31 (0, 0))) ∧ Aside0 (wc.heap[gb108]? = some (.cells #[.int .i64 a0_0, .int .i64 x109001_2, .float .f64 x109002_2, .string x109003_2, (.slice none 0 0), (.slice none 0 0)] 31 (0, 0))) ∧ Aside0 (Below w.heap.size w wc))
            case first =>
             have H := HC140.out
             clear HC140
             by_cases c144 : 0 ≤ x7_4
             ·
              rw [if_pos c144] at H
              have c144b0 : decide (0 ≤ x7_4) = true := decide_eq_true c144
              clear c144
              (first | rw [c144b0] | (simp only [i64_w, i32_w]; rw [c144b0]) | skip)
              replace H := Option.bind_eq_some_iff.mp H
              obtain ⟨t111, A1450, H⟩ := H
              replace H : (if t111 = true then (if a0_0 = 7 then (if x7_4 < (l0_4.length : Int) then (if ((rdOf ByteArray.empty l0_4 x7_4).size : Int) > 300 then (spec_right.j6 k4 a1 x7_4 true a0_0 a0_1 a0_2 a0_3 l0_4 l0_5) else (if x7_4 > 0 then (if 0 ≤ (wrap64 (x7_4 - 1)) then (if (wrap64 (x7_4 - 1)) < (l0_4.length : Int) then (spec_right.j6 k4 a1 x7_4 (!(Op.bytesLess ((rdOf ByteArray.empty l0_4 (wrap64 (x7_4 - 1))).toList) ((rdOf ByteArray.empty l0_4 x7_4).toList))) a0_0 a0_1 a0_2 a0_3 l0_4 l0_5) else (none)) else (none)) else (spec_right.j6 k4 a1 x7_4 false a0_0 a0_1 a0_2 a0_3 l0_4 l0_5))) else (none)) else (spec_right.j6 k4 a1 x7_4 false a0_0 a0_1 a0_2 a0_3 l0_4 l0_5)) else (spec_right.j6 k4 a1 x7_4 true a0_0 a0_1 a0_2 a0_3 l0_4 l0_5)) = some r := H
              have A145 := Aside0.mk A1450
              clear A1450
              by_cases c146 : t111 = true
              ·
               subst c146
               have H1 : (if a0_0 = 7 then (if x7_4 < (l0_4.length : Int) then (if ((rdOf ByteArray.empty l0_4 x7_4).size : Int) > 300 then (spec_right.j6 k4 a1 x7_4 true a0_0 a0_1 a0_2 a0_3 l0_4 l0_5) else (if x7_4 > 0 then (if 0 ≤ (wrap64 (x7_4 - 1)) then (if (wrap64 (x7_4 - 1)) < (l0_4.length : Int) then (spec_right.j6 k4 a1 x7_4 (!(Op.bytesLess ((rdOf ByteArray.empty l0_4 (wrap64 (x7_4 - 1))).toList) ((rdOf ByteArray.empty l0_4 x7_4).toList))) a0_0 a0_1 a0_2 a0_3 l0_4 l0_5) else (none)) else (none)) else (spec_right.j6 k4 a1 x7_4 false a0_0 a0_1 a0_2 a0_3 l0_4 l0_5))) else (none)) else (spec_right.j6 k4 a1 x7_4 false a0_0 a0_1 a0_2 a0_3 l0_4 l0_5)) = some r := by rw [if_pos rfl] at H; exact H
               clear H
               have H := H1
               clear H1
               by_cases c147 : a0_0 = 7
               ·
                rw [if_pos c147] at H
                have c147b0 : (a0_0 == 7) = true := beq_iff_eq.mpr c147
                have c147b1 : (a0_0 != 7) = false := bne_eq_false_iff_eq.mpr c147
                clear c147
                by_cases c148 : x7_4 < (l0_4.length : Int)
                ·
                 rw [if_pos c148] at H
                 have c148b0 : decide (x7_4 < (l0_4.length : Int)) = true := decide_eq_true c148
                 clear c148
                 by_cases c149 : ((rdOf ByteArray.empty l0_4 x7_4).size : Int) > 300
                 ·
                  rw [if_pos c149] at H
                  have c149b0 : decide (300 < ((rdOf ByteArray.empty l0_4 x7_4).size : Int)) = true := decide_eq_true c149
                  have c149b1 : decide (300 < (rdOf ByteArray.empty l0_4 x7_4).size) = true := decide_eq_true (by omega)
                  clear c149
                  as_aux_lemma =>
                   have H' := Aside0.mk H
                   clear H
                   try go_wp2
                   have n0_ := Aside0.mk (blk_drew BK106.out)
                   have n1_ := Aside0.mk (blk_drew BK107.out)
                   have n2_ := Aside0.mk (blk_drew BK108.out)
                   have n3_ := Aside0.mk (below_drew1 HB.out)
                   clear BK106
                   clear BK107
                   clear BK108
                   clear HB
                   have BK106 := n0_
                   have BK107 := n1_
                   have BK108 := n2_
                   have HB := n3_
                   clear n0_ n1_ n2_ n3_
                   have p110 : 0 ≤ (x7_4 : Int) := of_decide_eq_true (by first | (with_reducible assumption) | assumption)
                   have q110 : x7_4 < (l0_5.length : Int) := of_decide_eq_true (by first | (with_reducible assumption) | assumption)
                   obtain ⟨ad110, A110_4, c110_4, A110_5, c110_5, e110, hx110_0, hx110_1, hx110_2, hx110_3, hx110_4, hx110_5, hl110_4, hi110_4, hl110_5, hi110_5⟩ := at_T31 HR0_5.out x7_4 p110 q110
                   have hw110_5 := hx110_5
                   have hw110_4 := hx110_4
                   have hw110_3 := hx110_3
                   have hw110_2 := hx110_2
                   have hw110_1 := hx110_1
                   have hw110_0 := hx110_0
                   cases e110
                   replace hx110_0 := (HB.out.cell (World.block_lt_of_cell? w _ hx110_0)).trans hx110_0
                   replace hx110_1 := (HB.out.cell (World.block_lt_of_cell? w _ hx110_1)).trans hx110_1
                   replace hx110_2 := (HB.out.cell (World.block_lt_of_cell? w _ hx110_2)).trans hx110_2
                   replace hx110_3 := (HB.out.cell (World.block_lt_of_cell? w _ hx110_3)).trans hx110_3
                   replace hx110_4 := (HB.out.cell (World.block_lt_of_cell? w _ hx110_4)).trans hx110_4
                   replace hx110_5 := (HB.out.cell (World.block_lt_of_cell? w _ hx110_5)).trans hx110_5
                   have HR110_4 := Aside0.mk hi110_4
                   have HC110_4 := Aside0.mk hl110_4
                   clear hi110_4 hl110_4
                   have HR110_5 := Aside0.mk hi110_5
                   have HC110_5 := Aside0.mk hl110_5
                   clear hi110_5 hl110_5
                   replace p110 := eq_true p110
                   replace q110 := eq_true q110
                   have p112 : 0 ≤ (x7_4 : Int) := of_decide_eq_true (by first | (with_reducible assumption) | assumption)
                   have q112 : x7_4 < (l0_4.length : Int) := of_decide_eq_true (by first | (with_reducible assumption) | assumption)
                   obtain ⟨ad112, e112, hx112_0⟩ := Kd.at_string HR0_4.out x7_4 p112 q112
                   have hw112_0 := hx112_0
                   cases e112
                   replace hx112_0 := (HB.out.cell (World.block_lt_of_cell? w _ hx112_0)).trans hx112_0
                   replace p112 := eq_true p112
                   replace q112 := eq_true q112
                   refine start_ (n := 41) (S := fun w' => w'.cell? ⟨gb106, 0, none⟩ = some (.int .i64 a0_0) ∧ w'.cell? ⟨gb106, 1, none⟩ = some (.int .i64 a0_1) ∧ w'.cell? ⟨gb106, 2, none⟩ = some (.float .f64 a0_2) ∧ w'.cell? ⟨gb106, 3, none⟩ = some (.string a0_3) ∧ w'.cell? ⟨gb106, 4, none⟩ = some (.slice (some ad112) l0_4.length c0_4) ∧ w'.cell? ⟨gb106, 5, none⟩ = some (.slice (some ad110) l0_5.length c0_5) ∧ w'.cell? (ad110.add ((x7_4).toNat * 6)) = some (.int .i64 ((rd_T31 l0_5 x7_4).f0)) ∧ w'.cell? ⟨(ad110.add ((x7_4).toNat * 6)).block, (ad110.add ((x7_4).toNat * 6)).off + 1, none⟩ = some (.int .i64 ((rd_T31 l0_5 x7_4).f1)) ∧ w'.cell? ⟨(ad110.add ((x7_4).toNat * 6)).block, (ad110.add ((x7_4).toNat * 6)).off + 2, none⟩ = some (.float .f64 ((rd_T31 l0_5 x7_4).f2)) ∧ w'.cell? ⟨(ad110.add ((x7_4).toNat * 6)).block, (ad110.add ((x7_4).toNat * 6)).off + 3, none⟩ = some (.string ((rd_T31 l0_5 x7_4).f3)) ∧ w'.cell? ⟨(ad110.add ((x7_4).toNat * 6)).block, (ad110.add ((x7_4).toNat * 6)).off + 4, none⟩ = some (.slice A110_4 ((rd_T31 l0_5 x7_4).f4).length c110_4) ∧ w'.cell? ⟨(ad110.add ((x7_4).toNat * 6)).block, (ad110.add ((x7_4).toNat * 6)).off + 5, none⟩ = some (.slice A110_5 ((rd_T31 l0_5 x7_4).f5).length c110_5) ∧ w'.cell? (ad112.add (x7_4).toNat) = some (.string (rdOf ByteArray.empty l0_4 x7_4))) (ds := []) (bn_ 41 0) (by kernel_rfl) rfl rfl ⟨(blk_cell BK106.out 0).trans rfl, (blk_cell BK106.out 1).trans rfl, (blk_cell BK106.out 2).trans rfl, (blk_cell BK106.out 3).trans rfl, (blk_cell BK106.out 4).trans rfl, (blk_cell BK106.out 5).trans rfl, ((HB.out.cell (World.block_lt_of_cell? w _ hw110_0)).trans hw110_0), ((HB.out.cell (World.block_lt_of_cell? w _ hw110_1)).trans hw110_1), ((HB.out.cell (World.block_lt_of_cell? w _ hw110_2)).trans hw110_2), ((HB.out.cell (World.block_lt_of_cell? w _ hw110_3)).trans hw110_3), ((HB.out.cell (World.block_lt_of_cell? w _ hw110_4)).trans hw110_4), ((HB.out.cell (World.block_lt_of_cell? w _ hw110_5)).trans hw110_5), ((HB.out.cell (World.block_lt_of_cell? w _ hw112_0)).trans hw112_0)⟩ (fun hHeld => ?_); refine with_tabW spec_right.tab25 spec_right.bits25 (fun HT_ HW_ => ?_)
                   generalize wr.drew = w150 at BK106 BK107 BK108 HB HR110_4 HR110_5 hx110_0 hx110_1 hx110_2 hx110_3 hx110_4 hx110_5 hx112_0 hHeld ⊢
                   refine pure_ (i := 0) (N := some 116) (v := ?_) (a' := ?_) (bn_ 41 1) rfl rfl (any_of HT_.out (by kernel_rfl)) (fun _ _ _ h => h) (Or.inl ⟨by rfl, ?_⟩) ?_ ?_
                   rotate_left; (intro w'; go_simp; with_reducible rfl)
                   rotate_left; (go_frame; (try simp only [w_]); rfl)
                   refine pure_ (i := 2) (N := some 118) (v := ?_) (a' := ?_) (bn_ 41 5) rfl rfl (any_of HT_.out (by kernel_rfl)) (fun _ _ _ h => h) (Or.inl ⟨by rfl, ?_⟩) ?_ ?_
                   rotate_left; (intro w'; go_simp; with_reducible rfl)
                   rotate_left; (go_frame; (try simp only [w_]); rfl)
                   refine pure_ (i := 5) (N := some 121) (v := ?_) (a' := ?_) (bn_ 41 37) rfl rfl (any_of HT_.out (by kernel_rfl)) (fun _ _ _ h => h) (Or.inl ⟨by rfl, ?_⟩) ?_ ?_
                   rotate_left; (intro w'; go_simp; with_reducible rfl)
                   rotate_left; (go_frame; (try simp only [w_]); rfl)
                   refine pure_ (i := 6) (N := some 122) (v := ?_) (a' := ?_) (bn_ 41 101) rfl rfl (any_of HT_.out (by kernel_rfl)) (fun _ _ _ h => h) (Or.inl ⟨by rfl, ?_⟩) ?_ ?_
                   rotate_left; (intro w'; go_simp; with_reducible rfl)
                   rotate_left; (go_frame; (try simp only [w_]); rfl)
                   refine take_ (i := 1) (N := some 117) (v := ?_) (a' := ?_) (bn_ 41 103) rfl rfl (take_ofW HT_.out HW_.out (by kernel_rfl)) (fun _ _ _ h => h) (Or.inl ⟨by rfl, ?_⟩) hHeld ?_ ?_
                   rotate_left
                   ·
                    rintro w' ⟨s0, s1, s2, s3, s4, s5, s6, s7, s8, s9, s10, s11, s12⟩
                    go_simp
                    with_reducible rfl
                   rotate_left; (go_frame; (try simp only [w_]); rfl)
                   refine pure_ (i := 3) (N := some 119) (v := ?_) (a' := ?_) (bn_ 41 111) rfl rfl (any_of HT_.out (by kernel_rfl)) (fun _ _ _ h => h) (Or.inl ⟨by rfl, ?_⟩) ?_ ?_
                   rotate_left; (intro w'; go_simp; with_reducible rfl)
                   rotate_left; (go_frame; (try simp only [w_]); rfl)
                   refine take_ (i := 4) (N := some 120) (v := ?_) (a' := ?_) (bn_ 41 127) rfl rfl (take_ofW HT_.out HW_.out (by kernel_rfl)) (fun _ _ _ h => h) (Or.inl ⟨by rfl, ?_⟩) hHeld ?_ ?_
                   rotate_left
                   ·
                    rintro w' ⟨s0, s1, s2, s3, s4, s5, s6, s7, s8, s9, s10, s11, s12⟩
                    go_simp
                    with_reducible rfl
                   rotate_left; (go_frame; (try simp only [w_]); rfl)
                   refine one_ (i := 7) (N := some 123) (bn_ 41 255) rfl rfl (one_of HT_.out (by kernel_rfl)) (by decide) (fun K hK => ?_)
                   refine goes_ Try.func17 (by kernel_rfl) rfl #[.agg #[.int .i64 ((rd_T31 l0_5 x7_4).f0), .int .i64 ((rd_T31 l0_5 x7_4).f1), .float .f64 ((rd_T31 l0_5 x7_4).f2), .string ((rd_T31 l0_5 x7_4).f3), .slice A110_4 ((rd_T31 l0_5 x7_4).f4).length c110_4, .slice A110_5 ((rd_T31 l0_5 x7_4).f5).length c110_5], .int .i64 (wrap64 (a1 - 1))] (by rfl) rfl rfl (by (try simp only [List.map_toArray, List.map_cons, List.map_nil]); first | done | rfl | (simp only [List.length_drop, List.length_take]; rfl)) ?_
                   with_reducible refine (ih k4 (by have := HJ2.out; have := HJ44.out; have := HJ125.out; have := HK4.out; omega) ((rd_T31 l0_5 x7_4).f0) ((rd_T31 l0_5 x7_4).f1) ((rd_T31 l0_5 x7_4).f2) ((rd_T31 l0_5 x7_4).f3) _ _ ((rd_T31 l0_5 x7_4).f4) _ _ ((rd_T31 l0_5 x7_4).f5) (wrap64 (a1 - 1)) true _ ?side1 ?side2 ?side3 ?side4 A145.out).mono ?_
                   (case side1 => repeat (first | exact (Kd.C_below HR110_4.out HB.out) | (with_reducible refine Kd.C_alloc ?_ _) | (with_reducible refine Kd.C_drewN ?_ _) | (with_reducible refine Kd.C_drew ?_)))
                   (case side2 => exact HC110_4.out)
                   (case side3 => repeat (first | exact (Kd.C_below HR110_5.out HB.out) | (with_reducible refine Kd.C_alloc ?_ _) | (with_reducible refine Kd.C_drewN ?_ _) | (with_reducible refine Kd.C_drew ?_)))
                   (case side4 => exact HC110_5.out)
                   rintro e w151 ⟨rfl, hb⟩
                   refine ⟨_, rfl, ?_⟩
                   have n0_ := Aside0.mk (blk_below (g := gb106) (o := .cells #[.int .i64 a0_0, .int .i64 a0_1, .float .f64 a0_2, .string a0_3, .slice (some ad112) l0_4.length c0_4, .slice (some ad110) l0_5.length c0_5] 31 (0, 0)) (by (with_reducible repeat first | apply blk_drewN | apply blk_drew | apply blk_alloc); exact BK106.out) hb)
                   have n1_ := Aside0.mk (blk_below (g := gb107) (o := .cells #[.int .i64 a0_0, .int .i64 a0_1, .float .f64 a0_2, .string a0_3, .slice none 0 0, .slice none 0 0] 31 (0, 0)) (by (with_reducible repeat first | apply blk_drewN | apply blk_drew | apply blk_alloc); exact BK107.out) hb)
                   have n2_ := Aside0.mk (blk_below (g := gb108) (o := .cells #[.int .i64 a0_0, .int .i64 x109001_2, .float .f64 x109002_2, .string x109003_2, .slice none 0 0, .slice none 0 0] 31 (0, 0)) (by (with_reducible repeat first | apply blk_drewN | apply blk_drew | apply blk_alloc); exact BK108.out) hb)
                   have n3_ := Aside0.mk (below_step (by repeat (first | (with_reducible first | exact HB.out | apply below_alloc | apply pw_below_drewN | apply below_drew1 | refine below_set ?_ GE106.out | refine below_set ?_ GE107.out | refine below_set ?_ GE108.out) | exact HB.out)) hb)
                   clear BK106
                   clear BK107
                   clear BK108
                   clear HB
                   have BK106 := n0_
                   have BK107 := n1_
                   have BK108 := n2_
                   have HB := n3_
                   clear n0_ n1_ n2_ n3_
                   (try clear hb)
                   (try clear hb2)
                   (try clear hk)
                   (try clear hi)
                   refine hK.out _ _ ⟨(blk_cell BK106.out 0).trans rfl, (blk_cell BK106.out 1).trans rfl, (blk_cell BK106.out 2).trans rfl, (blk_cell BK106.out 3).trans rfl, (blk_cell BK106.out 4).trans rfl, (blk_cell BK106.out 5).trans rfl, ((HB.out.cell (World.block_lt_of_cell? w _ hw110_0)).trans hw110_0), ((HB.out.cell (World.block_lt_of_cell? w _ hw110_1)).trans hw110_1), ((HB.out.cell (World.block_lt_of_cell? w _ hw110_2)).trans hw110_2), ((HB.out.cell (World.block_lt_of_cell? w _ hw110_3)).trans hw110_3), ((HB.out.cell (World.block_lt_of_cell? w _ hw110_4)).trans hw110_4), ((HB.out.cell (World.block_lt_of_cell? w _ hw110_5)).trans hw110_5), ((HB.out.cell (World.block_lt_of_cell? w _ hw112_0)).trans hw112_0)⟩ (fun hHeld => ?_)
                   clear hK K
                   refine norm_ (a' := ?_) ?_ ?_
                   rotate_left
                   ·
                    show Act.put _ (some 123) _ = _
                    go_frame; try simp only [i64_w, i32_w]
                    rfl
                   refine pure_ (i := 8) (N := some 124) (v := ?_) (a' := ?_) (bn_ 41 511) rfl rfl (any_of HT_.out (by kernel_rfl)) (fun _ _ _ h => h) (Or.inl ⟨by rfl, ?_⟩) ?_ ?_
                   rotate_left; (intro w'; go_simp; with_reducible rfl)
                   rotate_left; (go_frame; (try simp only [w_]); rfl)
                   refine pure_ (i := 9) (N := some 125) (v := ?_) (a' := ?_) (bn_ 41 1023) rfl rfl (any_of HT_.out (by kernel_rfl)) (fun _ _ _ h => h) (Or.inl ⟨by rfl, ?_⟩) ?_ ?_
                   rotate_left; (intro w'; go_simp; with_reducible rfl)
                   rotate_left; (go_frame; (try simp only [w_]); rfl)
                   refine pure_ (i := 10) (N := some 126) (v := ?_) (a' := ?_) (bn_ 41 2047) rfl rfl (any_of HT_.out (by kernel_rfl)) (fun _ _ _ h => h) (Or.inl ⟨by rfl, ?_⟩) ?_ ?_
                   rotate_left; (intro w'; go_simp; with_reducible rfl)
                   rotate_left; (go_frame; (try simp only [w_]); rfl)
                   refine take_ (i := 11) (N := some 127) (v := ?_) (a' := ?_) (bn_ 41 4095) rfl rfl (take_ofW HT_.out HW_.out (by kernel_rfl)) (fun _ _ _ h => h) (Or.inl ⟨by rfl, ?_⟩) hHeld ?_ ?_
                   rotate_left
                   ·
                    rintro w' ⟨s0, s1, s2, s3, s4, s5, s6, s7, s8, s9, s10, s11, s12⟩
                    go_simp
                    with_reducible rfl
                   rotate_left; (go_frame; (try simp only [w_]); rfl)
                   refine pure_ (i := 12) (N := some 128) (v := ?_) (a' := ?_) (bn_ 41 8191) rfl rfl (any_of HT_.out (by kernel_rfl)) (fun _ _ _ h => h) (Or.inl ⟨by rfl, ?_⟩) ?_ ?_
                   rotate_left; (intro w'; go_simp; with_reducible rfl)
                   rotate_left; (go_frame; (try simp only [w_]); rfl)
                   refine pure_ (i := 13) (N := some 129) (v := ?_) (a' := ?_) (bn_ 41 16383) rfl rfl (any_of HT_.out (by kernel_rfl)) (fun _ _ _ h => h) (Or.inl ⟨by rfl, ?_⟩) ?_ ?_
                   rotate_left; (intro w'; go_simp; with_reducible rfl)
                   rotate_left; (go_frame; (try simp only [w_]); rfl)
                   refine pure_ (i := 14) (N := some 130) (v := ?_) (a' := ?_) (bn_ 41 32767) rfl rfl (any_of HT_.out (by kernel_rfl)) (fun _ _ _ h => h) (Or.inl ⟨by rfl, ?_⟩) ?_ ?_
                   rotate_left; (intro w'; go_simp; with_reducible rfl)
                   rotate_left; (go_frame; (try simp only [w_]); rfl)
                   refine pure_ (i := 16) (N := some 132) (v := ?_) (a' := ?_) (bn_ 41 98303) rfl rfl (any_of HT_.out (by kernel_rfl)) (fun _ _ _ h => h) (Or.inl ⟨by rfl, ?_⟩) ?_ ?_
                   rotate_left; (intro w'; go_simp; with_reducible rfl)
                   rotate_left; (go_frame; (try simp only [w_]); rfl)
                   refine take_ (i := 15) (N := some 131) (v := ?_) (a' := ?_) (bn_ 41 131071) rfl rfl (take_ofW HT_.out HW_.out (by kernel_rfl)) (fun _ _ _ h => h) (Or.inl ⟨by rfl, ?_⟩) hHeld ?_ ?_
                   rotate_left
                   ·
                    rintro w' ⟨s0, s1, s2, s3, s4, s5, s6, s7, s8, s9, s10, s11, s12⟩
                    go_simp
                    with_reducible rfl
                   rotate_left; (go_frame; (try simp only [w_]); rfl)
                   refine pure_ (i := 17) (N := some 133) (v := ?_) (a' := ?_) (bn_ 41 262143) rfl rfl (any_of HT_.out (by kernel_rfl)) (fun _ _ _ h => h) (Or.inl ⟨by rfl, ?_⟩) ?_ ?_
                   rotate_left; (intro w'; go_simp; with_reducible rfl)
                   rotate_left; (go_frame; (try simp only [w_]); rfl)
                   refine take_ (i := 18) (N := some 134) (v := ?_) (a' := ?_) (bn_ 41 524287) rfl rfl (take_ofW HT_.out HW_.out (by kernel_rfl)) (fun _ _ _ h => h) (Or.inl ⟨by rfl, ?_⟩) hHeld ?_ ?_
                   rotate_left
                   ·
                    rintro w' ⟨s0, s1, s2, s3, s4, s5, s6, s7, s8, s9, s10, s11, s12⟩
                    go_simp
                    with_reducible rfl
                   rotate_left; (go_frame; (try simp only [w_]); rfl)
                   refine pure_ (i := 19) (N := some 135) (v := ?_) (a' := ?_) (bn_ 41 1048575) rfl rfl (any_of HT_.out (by kernel_rfl)) (fun _ _ _ h => h) (Or.inl ⟨by rfl, ?_⟩) ?_ ?_
                   rotate_left; (intro w'; go_simp; with_reducible rfl)
                   rotate_left; (go_frame; (try simp only [w_]); rfl)
                   refine pure_ (i := 20) (N := some 136) (v := ?_) (a' := ?_) (bn_ 41 2097151) rfl rfl (any_of HT_.out (by kernel_rfl)) (fun _ _ _ h => h) (Or.inl ⟨by rfl, ?_⟩) ?_ ?_
                   rotate_left; (intro w'; go_simp; with_reducible rfl)
                   rotate_left; (go_frame; (try simp only [w_]); rfl)
                   refine pure_ (i := 21) (N := some 137) (v := ?_) (a' := ?_) (bn_ 41 4194303) rfl rfl (any_of HT_.out (by kernel_rfl)) (fun _ _ _ h => h) (Or.inl ⟨by rfl, ?_⟩) ?_ ?_
                   rotate_left; (intro w'; go_simp; with_reducible rfl)
                   rotate_left; (go_frame; (try simp only [w_]); rfl)
                   refine pure_ (i := 22) (N := some 138) (v := undef) (a' := ?_) (bn_ 41 8388607) rfl rfl (any_of HT_.out (by kernel_rfl)) (fun _ _ _ h => h) (Or.inr ⟨by rfl, rfl⟩) ?_ ?_
                   rotate_left; (go_frame; (try simp only [w_]); rfl)
                   refine pure_ (i := 23) (N := some 139) (v := undef) (a' := ?_) (bn_ 41 16777215) rfl rfl (any_of HT_.out (by kernel_rfl)) (fun _ _ _ h => h) (Or.inr ⟨by rfl, rfl⟩) ?_ ?_
                   rotate_left; (go_frame; (try simp only [w_]); rfl)
                   refine pure_ (i := 24) (N := some 140) (v := undef) (a' := ?_) (bn_ 41 33554431) rfl rfl (any_of HT_.out (by kernel_rfl)) (fun _ _ _ h => h) (Or.inr ⟨by rfl, rfl⟩) ?_ ?_
                   rotate_left; (go_frame; (try simp only [w_]); rfl)
                   refine pure_ (i := 25) (N := some 141) (v := undef) (a' := ?_) (bn_ 41 67108863) rfl rfl (any_of HT_.out (by kernel_rfl)) (fun _ _ _ h => h) (Or.inr ⟨by rfl, rfl⟩) ?_ ?_
                   rotate_left; (go_frame; (try simp only [w_]); rfl)
                   refine pure_ (i := 26) (N := some 142) (v := undef) (a' := ?_) (bn_ 41 134217727) rfl rfl (any_of HT_.out (by kernel_rfl)) (fun _ _ _ h => h) (Or.inr ⟨by rfl, rfl⟩) ?_ ?_
                   rotate_left; (go_frame; (try simp only [w_]); rfl)
                   refine pure_ (i := 27) (N := some 143) (v := undef) (a' := ?_) (bn_ 41 268435455) rfl rfl (any_of HT_.out (by kernel_rfl)) (fun _ _ _ h => h) (Or.inr ⟨by rfl, rfl⟩) ?_ ?_
                   rotate_left; (go_frame; (try simp only [w_]); rfl)
                   refine pure_ (i := 28) (N := some 144) (v := undef) (a' := ?_) (bn_ 41 536870911) rfl rfl (any_of HT_.out (by kernel_rfl)) (fun _ _ _ h => h) (Or.inr ⟨by rfl, rfl⟩) ?_ ?_
                   rotate_left; (go_frame; (try simp only [w_]); rfl)
                   refine pure_ (i := 29) (N := some 145) (v := undef) (a' := ?_) (bn_ 41 1073741823) rfl rfl (any_of HT_.out (by kernel_rfl)) (fun _ _ _ h => h) (Or.inr ⟨by rfl, rfl⟩) ?_ ?_
                   rotate_left; (go_frame; (try simp only [w_]); rfl)
                   refine pure_ (i := 30) (N := some 146) (v := undef) (a' := ?_) (bn_ 41 2147483647) rfl rfl (any_of HT_.out (by kernel_rfl)) (fun _ _ _ h => h) (Or.inr ⟨by rfl, rfl⟩) ?_ ?_
                   rotate_left; (go_frame; (try simp only [w_]); rfl)
                   refine pure_ (i := 31) (N := some 147) (v := undef) (a' := ?_) (bn_ 41 4294967295) rfl rfl (any_of HT_.out (by kernel_rfl)) (fun _ _ _ h => h) (Or.inr ⟨by rfl, rfl⟩) ?_ ?_
                   rotate_left; (go_frame; (try simp only [w_]); rfl)
                   refine pure_ (i := 32) (N := some 148) (v := undef) (a' := ?_) (bn_ 41 8589934591) rfl rfl (any_of HT_.out (by kernel_rfl)) (fun _ _ _ h => h) (Or.inr ⟨by rfl, rfl⟩) ?_ ?_
                   rotate_left; (go_frame; (try simp only [w_]); rfl)
                   refine pure_ (i := 33) (N := some 149) (v := undef) (a' := ?_) (bn_ 41 17179869183) rfl rfl (any_of HT_.out (by kernel_rfl)) (fun _ _ _ h => h) (Or.inr ⟨by rfl, rfl⟩) ?_ ?_
                   rotate_left; (go_frame; (try simp only [w_]); rfl)
                   refine pure_ (i := 34) (N := some 150) (v := undef) (a' := ?_) (bn_ 41 34359738367) rfl rfl (any_of HT_.out (by kernel_rfl)) (fun _ _ _ h => h) (Or.inr ⟨by rfl, rfl⟩) ?_ ?_
                   rotate_left; (go_frame; (try simp only [w_]); rfl)
                   refine pure_ (i := 35) (N := some 151) (v := undef) (a' := ?_) (bn_ 41 68719476735) rfl rfl (any_of HT_.out (by kernel_rfl)) (fun _ _ _ h => h) (Or.inr ⟨by rfl, rfl⟩) ?_ ?_
                   rotate_left; (go_frame; (try simp only [w_]); rfl)
                   refine pure_ (i := 36) (N := some 152) (v := undef) (a' := ?_) (bn_ 41 137438953471) rfl rfl (any_of HT_.out (by kernel_rfl)) (fun _ _ _ h => h) (Or.inr ⟨by rfl, rfl⟩) ?_ ?_
                   rotate_left; (go_frame; (try simp only [w_]); rfl)
                   refine pure_ (i := 37) (N := some 153) (v := undef) (a' := ?_) (bn_ 41 274877906943) rfl rfl (any_of HT_.out (by kernel_rfl)) (fun _ _ _ h => h) (Or.inr ⟨by rfl, rfl⟩) ?_ ?_
                   rotate_left; (go_frame; (try simp only [w_]); rfl)
                   refine pure_ (i := 38) (N := some 154) (v := ?_) (a' := ?_) (bn_ 41 549755813887) rfl rfl (any_of HT_.out (by kernel_rfl)) (fun _ _ _ h => h) (Or.inl ⟨by rfl, ?_⟩) ?_ ?_
                   rotate_left; (intro w'; go_simp; with_reducible rfl)
                   rotate_left; (go_frame; (try simp only [w_]); rfl)
                   refine pure_ (i := 39) (N := some 155) (v := ?_) (a' := ?_) (bn_ 41 1099511627775) rfl rfl (any_of HT_.out (by kernel_rfl)) (fun _ _ _ h => h) (Or.inl ⟨by rfl, ?_⟩) ?_ ?_
                   rotate_left; (intro w'; go_simp; with_reducible rfl)
                   rotate_left; (go_frame; (try simp only [w_]); rfl)
                   refine pure_ (i := 40) (N := some 156) (v := ?_) (a' := ?_) (bn_ 41 2199023255551) rfl rfl (any_of HT_.out (by kernel_rfl)) (fun _ _ _ h => h) (Or.inl ⟨by rfl, ?_⟩) ?_ ?_
                   rotate_left; (intro w'; go_simp; with_reducible rfl)
                   rotate_left; (go_frame; (try simp only [w_]); rfl)
                   refine done_ (done_of HT_.out (by kernel_rfl)) ?_
                   try go_wp2
                   go_meet
                   case rel => exact ⟨_, (true), (by first | rfl | (simp only [bytesLe_not]; done) | (simp; done) | (simp [*]; done)), H', ⟨by have := HJ2.out; have := HJ44.out; have := HJ125.out; have := HK4.out; first | omega | exact Nat.le_refl _⟩, ⟨by (with_reducible repeat first | apply blk_drewN | apply blk_drew | apply blk_alloc); exact BK106.out⟩, ⟨by (with_reducible repeat first | apply blk_drewN | apply blk_drew | apply blk_alloc); exact BK107.out⟩, ⟨by (with_reducible repeat first | apply blk_drewN | apply blk_drew | apply blk_alloc); exact BK108.out⟩, ⟨by repeat (first | (with_reducible first | exact HB.out | apply below_alloc | apply pw_below_drewN | apply below_drew1 | refine below_set ?_ GE106.out | refine below_set ?_ GE107.out | refine below_set ?_ GE108.out) | exact HB.out)⟩⟩
                 ·
                  rw [if_neg c149] at H
                  have c149b0 : decide (300 < ((rdOf ByteArray.empty l0_4 x7_4).size : Int)) = false := decide_eq_false c149
                  have c149b1 : decide (300 < (rdOf ByteArray.empty l0_4 x7_4).size) = false := decide_eq_false (by omega)
                  clear c149
                  by_cases c152 : x7_4 > 0
                  ·
                   rw [if_pos c152] at H
                   have c152b0 : decide (0 < x7_4) = true := decide_eq_true c152
                   clear c152
                   obtain ⟨ji153, hji153⟩ : ∃ j_ : Int, (wrap64 (x7_4 - 1)) = j_ := ⟨_, rfl⟩
                   replace H : (if 0 ≤ (ji153) then (if (ji153) < (l0_4.length : Int) then (spec_right.j6 k4 a1 x7_4 (!(Op.bytesLess ((rdOf ByteArray.empty l0_4 (ji153)).toList) ((rdOf ByteArray.empty l0_4 x7_4).toList))) a0_0 a0_1 a0_2 a0_3 l0_4 l0_5) else (none)) else (none)) = some r := by first | (rw [hji153] at H; exact H) | (simp only [hji153] at H ⊢; exact H)
                   (try rw [hji153] at A145)
                   have hji153w : (IntKind.i64.wrap (x7_4 - 1)) = ji153 := (i64_w _).trans hji153
                   by_cases c154 : 0 ≤ (ji153)
                   ·
                    rw [if_pos c154] at H
                    have c154b0 : decide (0 ≤ (ji153)) = true := decide_eq_true c154
                    clear c154
                    by_cases c155 : (ji153) < (l0_4.length : Int)
                    ·
                     rw [if_pos c155] at H
                     have c155b0 : decide ((ji153) < (l0_4.length : Int)) = true := decide_eq_true c155
                     clear c155
                     as_aux_lemma =>
                      have H' := Aside0.mk H
                      clear H
                      try go_wp2
                      have n0_ := Aside0.mk (blk_drew BK106.out)
                      have n1_ := Aside0.mk (blk_drew BK107.out)
                      have n2_ := Aside0.mk (blk_drew BK108.out)
                      have n3_ := Aside0.mk (below_drew1 HB.out)
                      clear BK106
                      clear BK107
                      clear BK108
                      clear HB
                      have BK106 := n0_
                      have BK107 := n1_
                      have BK108 := n2_
                      have HB := n3_
                      clear n0_ n1_ n2_ n3_
                      have p110 : 0 ≤ (x7_4 : Int) := of_decide_eq_true (by first | (with_reducible assumption) | assumption)
                      have q110 : x7_4 < (l0_5.length : Int) := of_decide_eq_true (by first | (with_reducible assumption) | assumption)
                      obtain ⟨ad110, A110_4, c110_4, A110_5, c110_5, e110, hx110_0, hx110_1, hx110_2, hx110_3, hx110_4, hx110_5, hl110_4, hi110_4, hl110_5, hi110_5⟩ := at_T31 HR0_5.out x7_4 p110 q110
                      have hw110_5 := hx110_5
                      have hw110_4 := hx110_4
                      have hw110_3 := hx110_3
                      have hw110_2 := hx110_2
                      have hw110_1 := hx110_1
                      have hw110_0 := hx110_0
                      cases e110
                      replace hx110_0 := (HB.out.cell (World.block_lt_of_cell? w _ hx110_0)).trans hx110_0
                      replace hx110_1 := (HB.out.cell (World.block_lt_of_cell? w _ hx110_1)).trans hx110_1
                      replace hx110_2 := (HB.out.cell (World.block_lt_of_cell? w _ hx110_2)).trans hx110_2
                      replace hx110_3 := (HB.out.cell (World.block_lt_of_cell? w _ hx110_3)).trans hx110_3
                      replace hx110_4 := (HB.out.cell (World.block_lt_of_cell? w _ hx110_4)).trans hx110_4
                      replace hx110_5 := (HB.out.cell (World.block_lt_of_cell? w _ hx110_5)).trans hx110_5
                      have HR110_4 := Aside0.mk hi110_4
                      have HC110_4 := Aside0.mk hl110_4
                      clear hi110_4 hl110_4
                      have HR110_5 := Aside0.mk hi110_5
                      have HC110_5 := Aside0.mk hl110_5
                      clear hi110_5 hl110_5
                      replace p110 := eq_true p110
                      replace q110 := eq_true q110
                      have p112 : 0 ≤ (x7_4 : Int) := of_decide_eq_true (by first | (with_reducible assumption) | assumption)
                      have q112 : x7_4 < (l0_4.length : Int) := of_decide_eq_true (by first | (with_reducible assumption) | assumption)
                      obtain ⟨ad112, e112, hx112_0⟩ := Kd.at_string HR0_4.out x7_4 p112 q112
                      have hw112_0 := hx112_0
                      cases e112
                      replace hx112_0 := (HB.out.cell (World.block_lt_of_cell? w _ hx112_0)).trans hx112_0
                      replace p112 := eq_true p112
                      replace q112 := eq_true q112
                      have p113 : 0 ≤ (x7_4 : Int) := of_decide_eq_true (by first | (with_reducible assumption) | assumption)
                      have q113 : x7_4 < (l0_4.length : Int) := of_decide_eq_true (by first | (with_reducible assumption) | assumption)
                      obtain ⟨ad113, e113, hx113_0⟩ := Kd.at_string HR0_4.out x7_4 p113 q113
                      have hw113_0 := hx113_0
                      obtain rfl : ad112 = ad113 := (by injection e113)
                      replace hx113_0 := (HB.out.cell (World.block_lt_of_cell? w _ hx113_0)).trans hx113_0
                      replace p113 := eq_true p113
                      replace q113 := eq_true q113
                      have p114 : 0 ≤ ((ji153) : Int) := of_decide_eq_true (by first | (with_reducible assumption) | assumption)
                      have q114 : (ji153) < (l0_4.length : Int) := of_decide_eq_true (by first | (with_reducible assumption) | assumption)
                      obtain ⟨ad114, e114, hx114_0⟩ := Kd.at_string HR0_4.out (ji153) p114 q114
                      have hw114_0 := hx114_0
                      obtain rfl : ad112 = ad114 := (by injection e114)
                      replace hx114_0 := (HB.out.cell (World.block_lt_of_cell? w _ hx114_0)).trans hx114_0
                      replace p114 := eq_true p114
                      replace q114 := eq_true q114
                      refine start_ (n := 41) (S := fun w' => w'.cell? ⟨gb106, 0, none⟩ = some (.int .i64 a0_0) ∧ w'.cell? ⟨gb106, 1, none⟩ = some (.int .i64 a0_1) ∧ w'.cell? ⟨gb106, 2, none⟩ = some (.float .f64 a0_2) ∧ w'.cell? ⟨gb106, 3, none⟩ = some (.string a0_3) ∧ w'.cell? ⟨gb106, 4, none⟩ = some (.slice (some ad112) l0_4.length c0_4) ∧ w'.cell? ⟨gb106, 5, none⟩ = some (.slice (some ad110) l0_5.length c0_5) ∧ w'.cell? (ad110.add ((x7_4).toNat * 6)) = some (.int .i64 ((rd_T31 l0_5 x7_4).f0)) ∧ w'.cell? ⟨(ad110.add ((x7_4).toNat * 6)).block, (ad110.add ((x7_4).toNat * 6)).off + 1, none⟩ = some (.int .i64 ((rd_T31 l0_5 x7_4).f1)) ∧ w'.cell? ⟨(ad110.add ((x7_4).toNat * 6)).block, (ad110.add ((x7_4).toNat * 6)).off + 2, none⟩ = some (.float .f64 ((rd_T31 l0_5 x7_4).f2)) ∧ w'.cell? ⟨(ad110.add ((x7_4).toNat * 6)).block, (ad110.add ((x7_4).toNat * 6)).off + 3, none⟩ = some (.string ((rd_T31 l0_5 x7_4).f3)) ∧ w'.cell? ⟨(ad110.add ((x7_4).toNat * 6)).block, (ad110.add ((x7_4).toNat * 6)).off + 4, none⟩ = some (.slice A110_4 ((rd_T31 l0_5 x7_4).f4).length c110_4) ∧ w'.cell? ⟨(ad110.add ((x7_4).toNat * 6)).block, (ad110.add ((x7_4).toNat * 6)).off + 5, none⟩ = some (.slice A110_5 ((rd_T31 l0_5 x7_4).f5).length c110_5) ∧ w'.cell? (ad112.add (x7_4).toNat) = some (.string (rdOf ByteArray.empty l0_4 x7_4)) ∧ w'.cell? (ad112.add (x7_4).toNat) = some (.string (rdOf ByteArray.empty l0_4 x7_4)) ∧ w'.cell? (ad112.add ((ji153)).toNat) = some (.string (rdOf ByteArray.empty l0_4 (ji153)))) (ds := []) (bn_ 41 0) (by kernel_rfl) rfl rfl ⟨(blk_cell BK106.out 0).trans rfl, (blk_cell BK106.out 1).trans rfl, (blk_cell BK106.out 2).trans rfl, (blk_cell BK106.out 3).trans rfl, (blk_cell BK106.out 4).trans rfl, (blk_cell BK106.out 5).trans rfl, ((HB.out.cell (World.block_lt_of_cell? w _ hw110_0)).trans hw110_0), ((HB.out.cell (World.block_lt_of_cell? w _ hw110_1)).trans hw110_1), ((HB.out.cell (World.block_lt_of_cell? w _ hw110_2)).trans hw110_2), ((HB.out.cell (World.block_lt_of_cell? w _ hw110_3)).trans hw110_3), ((HB.out.cell (World.block_lt_of_cell? w _ hw110_4)).trans hw110_4), ((HB.out.cell (World.block_lt_of_cell? w _ hw110_5)).trans hw110_5), ((HB.out.cell (World.block_lt_of_cell? w _ hw112_0)).trans hw112_0), ((HB.out.cell (World.block_lt_of_cell? w _ hw113_0)).trans hw113_0), ((HB.out.cell (World.block_lt_of_cell? w _ hw114_0)).trans hw114_0)⟩ (fun hHeld => ?_); refine with_tabW spec_right.tab25 spec_right.bits25 (fun HT_ HW_ => ?_)
                      generalize wr.drew = w156 at BK106 BK107 BK108 HB HR110_4 HR110_5 hx110_0 hx110_1 hx110_2 hx110_3 hx110_4 hx110_5 hx112_0 hx113_0 hx114_0 hHeld ⊢
                      refine pure_ (i := 0) (N := some 116) (v := ?_) (a' := ?_) (bn_ 41 1) rfl rfl (any_of HT_.out (by kernel_rfl)) (fun _ _ _ h => h) (Or.inl ⟨by rfl, ?_⟩) ?_ ?_
                      rotate_left; (intro w'; go_simp; with_reducible rfl)
                      rotate_left; (go_frame; (try simp only [w_]); rfl)
                      refine pure_ (i := 2) (N := some 118) (v := ?_) (a' := ?_) (bn_ 41 5) rfl rfl (any_of HT_.out (by kernel_rfl)) (fun _ _ _ h => h) (Or.inl ⟨by rfl, ?_⟩) ?_ ?_
                      rotate_left; (intro w'; go_simp; with_reducible rfl)
                      rotate_left; (go_frame; (try simp only [w_]); rfl)
                      refine pure_ (i := 5) (N := some 121) (v := ?_) (a' := ?_) (bn_ 41 37) rfl rfl (any_of HT_.out (by kernel_rfl)) (fun _ _ _ h => h) (Or.inl ⟨by rfl, ?_⟩) ?_ ?_
                      rotate_left; (intro w'; go_simp; with_reducible rfl)
                      rotate_left; (go_frame; (try simp only [w_]); rfl)
                      refine pure_ (i := 6) (N := some 122) (v := ?_) (a' := ?_) (bn_ 41 101) rfl rfl (any_of HT_.out (by kernel_rfl)) (fun _ _ _ h => h) (Or.inl ⟨by rfl, ?_⟩) ?_ ?_
                      rotate_left; (intro w'; go_simp; with_reducible rfl)
                      rotate_left; (go_frame; (try simp only [w_]); rfl)
                      refine take_ (i := 1) (N := some 117) (v := ?_) (a' := ?_) (bn_ 41 103) rfl rfl (take_ofW HT_.out HW_.out (by kernel_rfl)) (fun _ _ _ h => h) (Or.inl ⟨by rfl, ?_⟩) hHeld ?_ ?_
                      rotate_left
                      ·
                       rintro w' ⟨s0, s1, s2, s3, s4, s5, s6, s7, s8, s9, s10, s11, s12, s13, s14⟩
                       go_simp
                       with_reducible rfl
                      rotate_left; (go_frame; (try simp only [w_]); rfl)
                      refine pure_ (i := 3) (N := some 119) (v := ?_) (a' := ?_) (bn_ 41 111) rfl rfl (any_of HT_.out (by kernel_rfl)) (fun _ _ _ h => h) (Or.inl ⟨by rfl, ?_⟩) ?_ ?_
                      rotate_left; (intro w'; go_simp; with_reducible rfl)
                      rotate_left; (go_frame; (try simp only [w_]); rfl)
                      refine take_ (i := 4) (N := some 120) (v := ?_) (a' := ?_) (bn_ 41 127) rfl rfl (take_ofW HT_.out HW_.out (by kernel_rfl)) (fun _ _ _ h => h) (Or.inl ⟨by rfl, ?_⟩) hHeld ?_ ?_
                      rotate_left
                      ·
                       rintro w' ⟨s0, s1, s2, s3, s4, s5, s6, s7, s8, s9, s10, s11, s12, s13, s14⟩
                       go_simp
                       with_reducible rfl
                      rotate_left; (go_frame; (try simp only [w_]); rfl)
                      refine one_ (i := 7) (N := some 123) (bn_ 41 255) rfl rfl (one_of HT_.out (by kernel_rfl)) (by decide) (fun K hK => ?_)
                      refine goes_ Try.func17 (by kernel_rfl) rfl #[.agg #[.int .i64 ((rd_T31 l0_5 x7_4).f0), .int .i64 ((rd_T31 l0_5 x7_4).f1), .float .f64 ((rd_T31 l0_5 x7_4).f2), .string ((rd_T31 l0_5 x7_4).f3), .slice A110_4 ((rd_T31 l0_5 x7_4).f4).length c110_4, .slice A110_5 ((rd_T31 l0_5 x7_4).f5).length c110_5], .int .i64 (wrap64 (a1 - 1))] (by rfl) rfl rfl (by (try simp only [List.map_toArray, List.map_cons, List.map_nil]); first | done | rfl | (simp only [List.length_drop, List.length_take]; rfl)) ?_
                      with_reducible refine (ih k4 (by have := HJ2.out; have := HJ44.out; have := HJ125.out; have := HK4.out; omega) ((rd_T31 l0_5 x7_4).f0) ((rd_T31 l0_5 x7_4).f1) ((rd_T31 l0_5 x7_4).f2) ((rd_T31 l0_5 x7_4).f3) _ _ ((rd_T31 l0_5 x7_4).f4) _ _ ((rd_T31 l0_5 x7_4).f5) (wrap64 (a1 - 1)) true _ ?side1 ?side2 ?side3 ?side4 A145.out).mono ?_
                      (case side1 => repeat (first | exact (Kd.C_below HR110_4.out HB.out) | (with_reducible refine Kd.C_alloc ?_ _) | (with_reducible refine Kd.C_drewN ?_ _) | (with_reducible refine Kd.C_drew ?_)))
                      (case side2 => exact HC110_4.out)
                      (case side3 => repeat (first | exact (Kd.C_below HR110_5.out HB.out) | (with_reducible refine Kd.C_alloc ?_ _) | (with_reducible refine Kd.C_drewN ?_ _) | (with_reducible refine Kd.C_drew ?_)))
                      (case side4 => exact HC110_5.out)
                      rintro e w157 ⟨rfl, hb⟩
                      refine ⟨_, rfl, ?_⟩
                      have n0_ := Aside0.mk (blk_below (g := gb106) (o := .cells #[.int .i64 a0_0, .int .i64 a0_1, .float .f64 a0_2, .string a0_3, .slice (some ad112) l0_4.length c0_4, .slice (some ad110) l0_5.length c0_5] 31 (0, 0)) (by (with_reducible repeat first | apply blk_drewN | apply blk_drew | apply blk_alloc); exact BK106.out) hb)
                      have n1_ := Aside0.mk (blk_below (g := gb107) (o := .cells #[.int .i64 a0_0, .int .i64 a0_1, .float .f64 a0_2, .string a0_3, .slice none 0 0, .slice none 0 0] 31 (0, 0)) (by (with_reducible repeat first | apply blk_drewN | apply blk_drew | apply blk_alloc); exact BK107.out) hb)
                      have n2_ := Aside0.mk (blk_below (g := gb108) (o := .cells #[.int .i64 a0_0, .int .i64 x109001_2, .float .f64 x109002_2, .string x109003_2, .slice none 0 0, .slice none 0 0] 31 (0, 0)) (by (with_reducible repeat first | apply blk_drewN | apply blk_drew | apply blk_alloc); exact BK108.out) hb)
                      have n3_ := Aside0.mk (below_step (by repeat (first | (with_reducible first | exact HB.out | apply below_alloc | apply pw_below_drewN | apply below_drew1 | refine below_set ?_ GE106.out | refine below_set ?_ GE107.out | refine below_set ?_ GE108.out) | exact HB.out)) hb)
                      clear BK106
                      clear BK107
                      clear BK108
                      clear HB
                      have BK106 := n0_
                      have BK107 := n1_
                      have BK108 := n2_
                      have HB := n3_
                      clear n0_ n1_ n2_ n3_
                      (try clear hb)
                      (try clear hb2)
                      (try clear hk)
                      (try clear hi)
                      refine hK.out _ _ ⟨(blk_cell BK106.out 0).trans rfl, (blk_cell BK106.out 1).trans rfl, (blk_cell BK106.out 2).trans rfl, (blk_cell BK106.out 3).trans rfl, (blk_cell BK106.out 4).trans rfl, (blk_cell BK106.out 5).trans rfl, ((HB.out.cell (World.block_lt_of_cell? w _ hw110_0)).trans hw110_0), ((HB.out.cell (World.block_lt_of_cell? w _ hw110_1)).trans hw110_1), ((HB.out.cell (World.block_lt_of_cell? w _ hw110_2)).trans hw110_2), ((HB.out.cell (World.block_lt_of_cell? w _ hw110_3)).trans hw110_3), ((HB.out.cell (World.block_lt_of_cell? w _ hw110_4)).trans hw110_4), ((HB.out.cell (World.block_lt_of_cell? w _ hw110_5)).trans hw110_5), ((HB.out.cell (World.block_lt_of_cell? w _ hw112_0)).trans hw112_0), ((HB.out.cell (World.block_lt_of_cell? w _ hw113_0)).trans hw113_0), ((HB.out.cell (World.block_lt_of_cell? w _ hw114_0)).trans hw114_0)⟩ (fun hHeld => ?_)
                      clear hK K
                      refine norm_ (a' := ?_) ?_ ?_
                      rotate_left
                      ·
                       show Act.put _ (some 123) _ = _
                       go_frame; try simp only [i64_w, i32_w]
                       rfl
                      refine pure_ (i := 8) (N := some 124) (v := ?_) (a' := ?_) (bn_ 41 511) rfl rfl (any_of HT_.out (by kernel_rfl)) (fun _ _ _ h => h) (Or.inl ⟨by rfl, ?_⟩) ?_ ?_
                      rotate_left; (intro w'; go_simp; with_reducible rfl)
                      rotate_left; (go_frame; (try simp only [w_]); rfl)
                      refine pure_ (i := 9) (N := some 125) (v := ?_) (a' := ?_) (bn_ 41 1023) rfl rfl (any_of HT_.out (by kernel_rfl)) (fun _ _ _ h => h) (Or.inl ⟨by rfl, ?_⟩) ?_ ?_
                      rotate_left; (intro w'; go_simp; with_reducible rfl)
                      rotate_left; (go_frame; (try simp only [w_]); rfl)
                      refine pure_ (i := 10) (N := some 126) (v := ?_) (a' := ?_) (bn_ 41 2047) rfl rfl (any_of HT_.out (by kernel_rfl)) (fun _ _ _ h => h) (Or.inl ⟨by rfl, ?_⟩) ?_ ?_
                      rotate_left; (intro w'; go_simp; with_reducible rfl)
                      rotate_left; (go_frame; (try simp only [w_]); rfl)
                      refine take_ (i := 11) (N := some 127) (v := ?_) (a' := ?_) (bn_ 41 4095) rfl rfl (take_ofW HT_.out HW_.out (by kernel_rfl)) (fun _ _ _ h => h) (Or.inl ⟨by rfl, ?_⟩) hHeld ?_ ?_
                      rotate_left
                      ·
                       rintro w' ⟨s0, s1, s2, s3, s4, s5, s6, s7, s8, s9, s10, s11, s12, s13, s14⟩
                       go_simp
                       with_reducible rfl
                      rotate_left; (go_frame; (try simp only [w_]); rfl)
                      refine pure_ (i := 12) (N := some 128) (v := ?_) (a' := ?_) (bn_ 41 8191) rfl rfl (any_of HT_.out (by kernel_rfl)) (fun _ _ _ h => h) (Or.inl ⟨by rfl, ?_⟩) ?_ ?_
                      rotate_left; (intro w'; go_simp; with_reducible rfl)
                      rotate_left; (go_frame; (try simp only [w_]); rfl)
                      refine pure_ (i := 13) (N := some 129) (v := ?_) (a' := ?_) (bn_ 41 16383) rfl rfl (any_of HT_.out (by kernel_rfl)) (fun _ _ _ h => h) (Or.inl ⟨by rfl, ?_⟩) ?_ ?_
                      rotate_left; (intro w'; go_simp; with_reducible rfl)
                      rotate_left; (go_frame; (try simp only [w_]); rfl)
                      refine pure_ (i := 14) (N := some 130) (v := ?_) (a' := ?_) (bn_ 41 32767) rfl rfl (any_of HT_.out (by kernel_rfl)) (fun _ _ _ h => h) (Or.inl ⟨by rfl, ?_⟩) ?_ ?_
                      rotate_left; (intro w'; go_simp; with_reducible rfl)
                      rotate_left; (go_frame; (try simp only [w_]); rfl)
                      refine pure_ (i := 16) (N := some 132) (v := ?_) (a' := ?_) (bn_ 41 98303) rfl rfl (any_of HT_.out (by kernel_rfl)) (fun _ _ _ h => h) (Or.inl ⟨by rfl, ?_⟩) ?_ ?_
                      rotate_left; (intro w'; go_simp; with_reducible rfl)
                      rotate_left; (go_frame; (try simp only [w_]); rfl)
                      refine take_ (i := 15) (N := some 131) (v := ?_) (a' := ?_) (bn_ 41 131071) rfl rfl (take_ofW HT_.out HW_.out (by kernel_rfl)) (fun _ _ _ h => h) (Or.inl ⟨by rfl, ?_⟩) hHeld ?_ ?_
                      rotate_left
                      ·
                       rintro w' ⟨s0, s1, s2, s3, s4, s5, s6, s7, s8, s9, s10, s11, s12, s13, s14⟩
                       go_simp
                       with_reducible rfl
                      rotate_left; (go_frame; (try simp only [w_]); rfl)
                      refine pure_ (i := 17) (N := some 133) (v := ?_) (a' := ?_) (bn_ 41 262143) rfl rfl (any_of HT_.out (by kernel_rfl)) (fun _ _ _ h => h) (Or.inl ⟨by rfl, ?_⟩) ?_ ?_
                      rotate_left; (intro w'; go_simp; with_reducible rfl)
                      rotate_left; (go_frame; (try simp only [w_]); rfl)
                      refine take_ (i := 18) (N := some 134) (v := ?_) (a' := ?_) (bn_ 41 524287) rfl rfl (take_ofW HT_.out HW_.out (by kernel_rfl)) (fun _ _ _ h => h) (Or.inl ⟨by rfl, ?_⟩) hHeld ?_ ?_
                      rotate_left
                      ·
                       rintro w' ⟨s0, s1, s2, s3, s4, s5, s6, s7, s8, s9, s10, s11, s12, s13, s14⟩
                       go_simp
                       with_reducible rfl
                      rotate_left; (go_frame; (try simp only [w_]); rfl)
                      refine pure_ (i := 19) (N := some 135) (v := ?_) (a' := ?_) (bn_ 41 1048575) rfl rfl (any_of HT_.out (by kernel_rfl)) (fun _ _ _ h => h) (Or.inl ⟨by rfl, ?_⟩) ?_ ?_
                      rotate_left; (intro w'; go_simp; with_reducible rfl)
                      rotate_left; (go_frame; (try simp only [w_]); rfl)
                      refine pure_ (i := 20) (N := some 136) (v := ?_) (a' := ?_) (bn_ 41 2097151) rfl rfl (any_of HT_.out (by kernel_rfl)) (fun _ _ _ h => h) (Or.inl ⟨by rfl, ?_⟩) ?_ ?_
                      rotate_left; (intro w'; go_simp; with_reducible rfl)
                      rotate_left; (go_frame; (try simp only [w_]); rfl)
                      refine pure_ (i := 21) (N := some 137) (v := ?_) (a' := ?_) (bn_ 41 4194303) rfl rfl (any_of HT_.out (by kernel_rfl)) (fun _ _ _ h => h) (Or.inl ⟨by rfl, ?_⟩) ?_ ?_
                      rotate_left; (intro w'; go_simp; with_reducible rfl)
                      rotate_left; (go_frame; (try simp only [w_]); rfl)
                      refine pure_ (i := 22) (N := some 138) (v := ?_) (a' := ?_) (bn_ 41 8388607) rfl rfl (any_of HT_.out (by kernel_rfl)) (fun _ _ _ h => h) (Or.inl ⟨by rfl, ?_⟩) ?_ ?_
                      rotate_left; (intro w'; go_simp; with_reducible rfl)
                      rotate_left; (go_frame; (try simp only [w_]); rfl)
                      refine pure_ (i := 23) (N := some 139) (v := ?_) (a' := ?_) (bn_ 41 16777215) rfl rfl (any_of HT_.out (by kernel_rfl)) (fun _ _ _ h => h) (Or.inl ⟨by rfl, ?_⟩) ?_ ?_
                      rotate_left; (intro w'; go_simp; with_reducible rfl)
                      rotate_left; (go_frame; (try simp only [w_]); rfl)
                      refine pure_ (i := 24) (N := some 140) (v := ?_) (a' := ?_) (bn_ 41 33554431) rfl rfl (any_of HT_.out (by kernel_rfl)) (fun _ _ _ h => h) (Or.inl ⟨by rfl, ?_⟩) ?_ ?_
                      rotate_left; (intro w'; go_simp; with_reducible rfl)
                      rotate_left; (go_frame; (try simp only [w_]); rfl)
                      refine pure_ (i := 25) (N := some 141) (v := ?_) (a' := ?_) (bn_ 41 67108863) rfl rfl (any_of HT_.out (by kernel_rfl)) (fun _ _ _ h => h) (Or.inl ⟨by rfl, ?_⟩) ?_ ?_
                      rotate_left; (intro w'; go_simp; with_reducible rfl)
                      rotate_left; (go_frame; (try simp only [w_]); rfl)
                      refine pure_ (i := 27) (N := some 143) (v := ?_) (a' := ?_) (bn_ 41 201326591) rfl rfl (any_of HT_.out (by kernel_rfl)) (fun _ _ _ h => h) (Or.inl ⟨by rfl, ?_⟩) ?_ ?_
                      rotate_left; (intro w'; go_simp; with_reducible rfl)
                      rotate_left; (go_frame; (try simp only [w_]); rfl)
                      refine pure_ (i := 30) (N := some 146) (v := ?_) (a' := ?_) (bn_ 41 1275068415) rfl rfl (any_of HT_.out (by kernel_rfl)) (fun _ _ _ h => h) (Or.inl ⟨by rfl, ?_⟩) ?_ ?_
                      rotate_left; (intro w'; go_simp; with_reducible rfl)
                      rotate_left; (go_frame; (try simp only [w_]); rfl)
                      refine pure_ (i := 32) (N := some 148) (v := ?_) (a' := ?_) (bn_ 41 5570035711) rfl rfl (any_of HT_.out (by kernel_rfl)) (fun _ _ _ h => h) (Or.inl ⟨by rfl, ?_⟩) ?_ ?_
                      rotate_left; (intro w'; go_simp; with_reducible rfl)
                      rotate_left; (go_frame; (try simp only [w_]); rfl)
                      refine pure_ (i := 33) (N := some 149) (v := ?_) (a' := ?_) (bn_ 41 14159970303) rfl rfl (any_of HT_.out (by kernel_rfl)) (fun _ _ _ h => h) (Or.inl ⟨by rfl, ?_⟩) ?_ ?_
                      rotate_left; (intro w'; go_simp; with_reducible rfl)
                      rotate_left; (go_frame; (try simp only [w_]); rfl)
                      refine take_ (i := 26) (N := some 142) (v := ?_) (a' := ?_) (bn_ 41 14227079167) rfl rfl (take_ofW HT_.out HW_.out (by kernel_rfl)) (fun _ _ _ h => h) (Or.inl ⟨by rfl, ?_⟩) hHeld ?_ ?_
                      rotate_left
                      ·
                       rintro w' ⟨s0, s1, s2, s3, s4, s5, s6, s7, s8, s9, s10, s11, s12, s13, s14⟩
                       go_simp
                       with_reducible rfl
                      rotate_left; (go_frame; (try simp only [w_]); rfl)
                      refine pure_ (i := 28) (N := some 144) (v := ?_) (a' := ?_) (bn_ 41 14495514623) rfl rfl (any_of HT_.out (by kernel_rfl)) (fun _ _ _ h => h) (Or.inl ⟨by rfl, ?_⟩) ?_ ?_
                      rotate_left; (intro w'; go_simp; with_reducible rfl)
                      rotate_left; (go_frame; (try simp only [w_]); rfl)
                      refine take_ (i := 29) (N := some 145) (v := ?_) (a' := ?_) (bn_ 41 15032385535) rfl rfl (take_ofW HT_.out HW_.out (by kernel_rfl)) (fun _ _ _ h => h) (Or.inl ⟨by rfl, ?_⟩) hHeld ?_ ?_
                      rotate_left
                      ·
                       rintro w' ⟨s0, s1, s2, s3, s4, s5, s6, s7, s8, s9, s10, s11, s12, s13, s14⟩
                       go_simp
                       with_reducible rfl
                      rotate_left; (go_frame; (try simp only [w_]); rfl)
                      refine take_ (i := 31) (N := some 147) (v := ?_) (a' := ?_) (bn_ 41 17179869183) rfl rfl (take_ofW HT_.out HW_.out (by kernel_rfl)) (fun _ _ _ h => h) (Or.inl ⟨by rfl, ?_⟩) hHeld ?_ ?_
                      rotate_left
                      ·
                       rintro w' ⟨s0, s1, s2, s3, s4, s5, s6, s7, s8, s9, s10, s11, s12, s13, s14⟩
                       go_simp
                       with_reducible rfl
                      rotate_left; (go_frame; (try simp only [w_]); rfl)
                      refine pure_ (i := 34) (N := some 150) (v := ?_) (a' := ?_) (bn_ 41 34359738367) rfl rfl (any_of HT_.out (by kernel_rfl)) (fun _ _ _ h => h) (Or.inl ⟨by rfl, ?_⟩) ?_ ?_
                      rotate_left; (intro w'; go_simp; with_reducible rfl)
                      rotate_left; (go_frame; (try simp only [w_]); rfl)
                      refine take_ (i := 35) (N := some 151) (v := ?_) (a' := ?_) (bn_ 41 68719476735) rfl rfl (take_ofW HT_.out HW_.out (by kernel_rfl)) (fun _ _ _ h => h) (Or.inl ⟨by rfl, ?_⟩) hHeld ?_ ?_
                      rotate_left
                      ·
                       rintro w' ⟨s0, s1, s2, s3, s4, s5, s6, s7, s8, s9, s10, s11, s12, s13, s14⟩
                       go_simp
                       with_reducible rfl
                      rotate_left; (go_frame; (try simp only [w_]); rfl)
                      refine pure_ (i := 36) (N := some 152) (v := ?_) (a' := ?_) (bn_ 41 137438953471) rfl rfl (any_of HT_.out (by kernel_rfl)) (fun _ _ _ h => h) (Or.inl ⟨by rfl, ?_⟩) ?_ ?_
                      rotate_left; (intro w'; go_simp; with_reducible rfl)
                      rotate_left; (go_frame; (try simp only [w_]); rfl)
                      refine pure_ (i := 37) (N := some 153) (v := ?_) (a' := ?_) (bn_ 41 274877906943) rfl rfl (any_of HT_.out (by kernel_rfl)) (fun _ _ _ h => h) (Or.inl ⟨by rfl, ?_⟩) ?_ ?_
                      rotate_left; (intro w'; go_simp; with_reducible rfl)
                      rotate_left; (go_frame; (try simp only [w_]); rfl)
                      refine pure_ (i := 38) (N := some 154) (v := ?_) (a' := ?_) (bn_ 41 549755813887) rfl rfl (any_of HT_.out (by kernel_rfl)) (fun _ _ _ h => h) (Or.inl ⟨by rfl, ?_⟩) ?_ ?_
                      rotate_left; (intro w'; go_simp; with_reducible rfl)
                      rotate_left; (go_frame; (try simp only [w_]); rfl)
                      refine pure_ (i := 39) (N := some 155) (v := ?_) (a' := ?_) (bn_ 41 1099511627775) rfl rfl (any_of HT_.out (by kernel_rfl)) (fun _ _ _ h => h) (Or.inl ⟨by rfl, ?_⟩) ?_ ?_
                      rotate_left; (intro w'; go_simp; with_reducible rfl)
                      rotate_left; (go_frame; (try simp only [w_]); rfl)
                      refine pure_ (i := 40) (N := some 156) (v := ?_) (a' := ?_) (bn_ 41 2199023255551) rfl rfl (any_of HT_.out (by kernel_rfl)) (fun _ _ _ h => h) (Or.inl ⟨by rfl, ?_⟩) ?_ ?_
                      rotate_left; (intro w'; go_simp; with_reducible rfl)
                      rotate_left; (go_frame; (try simp only [w_]); rfl)
                      refine done_ (done_of HT_.out (by kernel_rfl)) ?_
                      try go_wp2
                      go_meet
                      case rel => exact ⟨_, (!(Op.bytesLess ((rdOf ByteArray.empty l0_4 (ji153)).toList) ((rdOf ByteArray.empty l0_4 x7_4).toList))), (by first | rfl | (simp only [bytesLe_not]; done) | (simp; done) | (simp only [← hji153] <;> (first | rfl | simp)) | (simp [*]; done)), H', ⟨by have := HJ2.out; have := HJ44.out; have := HJ125.out; have := HK4.out; first | omega | exact Nat.le_refl _⟩, ⟨by (with_reducible repeat first | apply blk_drewN | apply blk_drew | apply blk_alloc); exact BK106.out⟩, ⟨by (with_reducible repeat first | apply blk_drewN | apply blk_drew | apply blk_alloc); exact BK107.out⟩, ⟨by (with_reducible repeat first | apply blk_drewN | apply blk_drew | apply blk_alloc); exact BK108.out⟩, ⟨by repeat (first | (with_reducible first | exact HB.out | apply below_alloc | apply pw_below_drewN | apply below_drew1 | refine below_set ?_ GE106.out | refine below_set ?_ GE107.out | refine below_set ?_ GE108.out) | exact HB.out)⟩⟩
                    ·
                     rw [if_neg c155] at H
                     exact absurd H (by simp)
                   ·
                    rw [if_neg c154] at H
                    exact absurd H (by simp)
                  ·
                   rw [if_neg c152] at H
                   have c152b0 : decide (0 < x7_4) = false := decide_eq_false c152
                   clear c152
                   as_aux_lemma =>
                    have H' := Aside0.mk H
                    clear H
                    try go_wp2
                    have n0_ := Aside0.mk (blk_drew BK106.out)
                    have n1_ := Aside0.mk (blk_drew BK107.out)
                    have n2_ := Aside0.mk (blk_drew BK108.out)
                    have n3_ := Aside0.mk (below_drew1 HB.out)
                    clear BK106
                    clear BK107
                    clear BK108
                    clear HB
                    have BK106 := n0_
                    have BK107 := n1_
                    have BK108 := n2_
                    have HB := n3_
                    clear n0_ n1_ n2_ n3_
                    have p110 : 0 ≤ (x7_4 : Int) := of_decide_eq_true (by first | (with_reducible assumption) | assumption)
                    have q110 : x7_4 < (l0_5.length : Int) := of_decide_eq_true (by first | (with_reducible assumption) | assumption)
                    obtain ⟨ad110, A110_4, c110_4, A110_5, c110_5, e110, hx110_0, hx110_1, hx110_2, hx110_3, hx110_4, hx110_5, hl110_4, hi110_4, hl110_5, hi110_5⟩ := at_T31 HR0_5.out x7_4 p110 q110
                    have hw110_5 := hx110_5
                    have hw110_4 := hx110_4
                    have hw110_3 := hx110_3
                    have hw110_2 := hx110_2
                    have hw110_1 := hx110_1
                    have hw110_0 := hx110_0
                    cases e110
                    replace hx110_0 := (HB.out.cell (World.block_lt_of_cell? w _ hx110_0)).trans hx110_0
                    replace hx110_1 := (HB.out.cell (World.block_lt_of_cell? w _ hx110_1)).trans hx110_1
                    replace hx110_2 := (HB.out.cell (World.block_lt_of_cell? w _ hx110_2)).trans hx110_2
                    replace hx110_3 := (HB.out.cell (World.block_lt_of_cell? w _ hx110_3)).trans hx110_3
                    replace hx110_4 := (HB.out.cell (World.block_lt_of_cell? w _ hx110_4)).trans hx110_4
                    replace hx110_5 := (HB.out.cell (World.block_lt_of_cell? w _ hx110_5)).trans hx110_5
                    have HR110_4 := Aside0.mk hi110_4
                    have HC110_4 := Aside0.mk hl110_4
                    clear hi110_4 hl110_4
                    have HR110_5 := Aside0.mk hi110_5
                    have HC110_5 := Aside0.mk hl110_5
                    clear hi110_5 hl110_5
                    replace p110 := eq_true p110
                    replace q110 := eq_true q110
                    have p112 : 0 ≤ (x7_4 : Int) := of_decide_eq_true (by first | (with_reducible assumption) | assumption)
                    have q112 : x7_4 < (l0_4.length : Int) := of_decide_eq_true (by first | (with_reducible assumption) | assumption)
                    obtain ⟨ad112, e112, hx112_0⟩ := Kd.at_string HR0_4.out x7_4 p112 q112
                    have hw112_0 := hx112_0
                    cases e112
                    replace hx112_0 := (HB.out.cell (World.block_lt_of_cell? w _ hx112_0)).trans hx112_0
                    replace p112 := eq_true p112
                    replace q112 := eq_true q112
                    refine start_ (n := 41) (S := fun w' => w'.cell? ⟨gb106, 0, none⟩ = some (.int .i64 a0_0) ∧ w'.cell? ⟨gb106, 1, none⟩ = some (.int .i64 a0_1) ∧ w'.cell? ⟨gb106, 2, none⟩ = some (.float .f64 a0_2) ∧ w'.cell? ⟨gb106, 3, none⟩ = some (.string a0_3) ∧ w'.cell? ⟨gb106, 4, none⟩ = some (.slice (some ad112) l0_4.length c0_4) ∧ w'.cell? ⟨gb106, 5, none⟩ = some (.slice (some ad110) l0_5.length c0_5) ∧ w'.cell? (ad110.add ((x7_4).toNat * 6)) = some (.int .i64 ((rd_T31 l0_5 x7_4).f0)) ∧ w'.cell? ⟨(ad110.add ((x7_4).toNat * 6)).block, (ad110.add ((x7_4).toNat * 6)).off + 1, none⟩ = some (.int .i64 ((rd_T31 l0_5 x7_4).f1)) ∧ w'.cell? ⟨(ad110.add ((x7_4).toNat * 6)).block, (ad110.add ((x7_4).toNat * 6)).off + 2, none⟩ = some (.float .f64 ((rd_T31 l0_5 x7_4).f2)) ∧ w'.cell? ⟨(ad110.add ((x7_4).toNat * 6)).block, (ad110.add ((x7_4).toNat * 6)).off + 3, none⟩ = some (.string ((rd_T31 l0_5 x7_4).f3)) ∧ w'.cell? ⟨(ad110.add ((x7_4).toNat * 6)).block, (ad110.add ((x7_4).toNat * 6)).off + 4, none⟩ = some (.slice A110_4 ((rd_T31 l0_5 x7_4).f4).length c110_4) ∧ w'.cell? ⟨(ad110.add ((x7_4).toNat * 6)).block, (ad110.add ((x7_4).toNat * 6)).off + 5, none⟩ = some (.slice A110_5 ((rd_T31 l0_5 x7_4).f5).length c110_5) ∧ w'.cell? (ad112.add (x7_4).toNat) = some (.string (rdOf ByteArray.empty l0_4 x7_4))) (ds := []) (bn_ 41 0) (by kernel_rfl) rfl rfl ⟨(blk_cell BK106.out 0).trans rfl, (blk_cell BK106.out 1).trans rfl, (blk_cell BK106.out 2).trans rfl, (blk_cell BK106.out 3).trans rfl, (blk_cell BK106.out 4).trans rfl, (blk_cell BK106.out 5).trans rfl, ((HB.out.cell (World.block_lt_of_cell? w _ hw110_0)).trans hw110_0), ((HB.out.cell (World.block_lt_of_cell? w _ hw110_1)).trans hw110_1), ((HB.out.cell (World.block_lt_of_cell? w _ hw110_2)).trans hw110_2), ((HB.out.cell (World.block_lt_of_cell? w _ hw110_3)).trans hw110_3), ((HB.out.cell (World.block_lt_of_cell? w _ hw110_4)).trans hw110_4), ((HB.out.cell (World.block_lt_of_cell? w _ hw110_5)).trans hw110_5), ((HB.out.cell (World.block_lt_of_cell? w _ hw112_0)).trans hw112_0)⟩ (fun hHeld => ?_); refine with_tabW spec_right.tab25 spec_right.bits25 (fun HT_ HW_ => ?_)
                    generalize wr.drew = w158 at BK106 BK107 BK108 HB HR110_4 HR110_5 hx110_0 hx110_1 hx110_2 hx110_3 hx110_4 hx110_5 hx112_0 hHeld ⊢
                    refine pure_ (i := 0) (N := some 116) (v := ?_) (a' := ?_) (bn_ 41 1) rfl rfl (any_of HT_.out (by kernel_rfl)) (fun _ _ _ h => h) (Or.inl ⟨by rfl, ?_⟩) ?_ ?_
                    rotate_left; (intro w'; go_simp; with_reducible rfl)
                    rotate_left; (go_frame; (try simp only [w_]); rfl)
                    refine pure_ (i := 2) (N := some 118) (v := ?_) (a' := ?_) (bn_ 41 5) rfl rfl (any_of HT_.out (by kernel_rfl)) (fun _ _ _ h => h) (Or.inl ⟨by rfl, ?_⟩) ?_ ?_
                    rotate_left; (intro w'; go_simp; with_reducible rfl)
                    rotate_left; (go_frame; (try simp only [w_]); rfl)
                    refine pure_ (i := 5) (N := some 121) (v := ?_) (a' := ?_) (bn_ 41 37) rfl rfl (any_of HT_.out (by kernel_rfl)) (fun _ _ _ h => h) (Or.inl ⟨by rfl, ?_⟩) ?_ ?_
                    rotate_left; (intro w'; go_simp; with_reducible rfl)
                    rotate_left; (go_frame; (try simp only [w_]); rfl)
                    refine pure_ (i := 6) (N := some 122) (v := ?_) (a' := ?_) (bn_ 41 101) rfl rfl (any_of HT_.out (by kernel_rfl)) (fun _ _ _ h => h) (Or.inl ⟨by rfl, ?_⟩) ?_ ?_
                    rotate_left; (intro w'; go_simp; with_reducible rfl)
                    rotate_left; (go_frame; (try simp only [w_]); rfl)
                    refine take_ (i := 1) (N := some 117) (v := ?_) (a' := ?_) (bn_ 41 103) rfl rfl (take_ofW HT_.out HW_.out (by kernel_rfl)) (fun _ _ _ h => h) (Or.inl ⟨by rfl, ?_⟩) hHeld ?_ ?_
                    rotate_left
                    ·
                     rintro w' ⟨s0, s1, s2, s3, s4, s5, s6, s7, s8, s9, s10, s11, s12⟩
                     go_simp
                     with_reducible rfl
                    rotate_left; (go_frame; (try simp only [w_]); rfl)
                    refine pure_ (i := 3) (N := some 119) (v := ?_) (a' := ?_) (bn_ 41 111) rfl rfl (any_of HT_.out (by kernel_rfl)) (fun _ _ _ h => h) (Or.inl ⟨by rfl, ?_⟩) ?_ ?_
                    rotate_left; (intro w'; go_simp; with_reducible rfl)
                    rotate_left; (go_frame; (try simp only [w_]); rfl)
                    refine take_ (i := 4) (N := some 120) (v := ?_) (a' := ?_) (bn_ 41 127) rfl rfl (take_ofW HT_.out HW_.out (by kernel_rfl)) (fun _ _ _ h => h) (Or.inl ⟨by rfl, ?_⟩) hHeld ?_ ?_
                    rotate_left
                    ·
                     rintro w' ⟨s0, s1, s2, s3, s4, s5, s6, s7, s8, s9, s10, s11, s12⟩
                     go_simp
                     with_reducible rfl
                    rotate_left; (go_frame; (try simp only [w_]); rfl)
                    refine one_ (i := 7) (N := some 123) (bn_ 41 255) rfl rfl (one_of HT_.out (by kernel_rfl)) (by decide) (fun K hK => ?_)
                    refine goes_ Try.func17 (by kernel_rfl) rfl #[.agg #[.int .i64 ((rd_T31 l0_5 x7_4).f0), .int .i64 ((rd_T31 l0_5 x7_4).f1), .float .f64 ((rd_T31 l0_5 x7_4).f2), .string ((rd_T31 l0_5 x7_4).f3), .slice A110_4 ((rd_T31 l0_5 x7_4).f4).length c110_4, .slice A110_5 ((rd_T31 l0_5 x7_4).f5).length c110_5], .int .i64 (wrap64 (a1 - 1))] (by rfl) rfl rfl (by (try simp only [List.map_toArray, List.map_cons, List.map_nil]); first | done | rfl | (simp only [List.length_drop, List.length_take]; rfl)) ?_
                    with_reducible refine (ih k4 (by have := HJ2.out; have := HJ44.out; have := HJ125.out; have := HK4.out; omega) ((rd_T31 l0_5 x7_4).f0) ((rd_T31 l0_5 x7_4).f1) ((rd_T31 l0_5 x7_4).f2) ((rd_T31 l0_5 x7_4).f3) _ _ ((rd_T31 l0_5 x7_4).f4) _ _ ((rd_T31 l0_5 x7_4).f5) (wrap64 (a1 - 1)) true _ ?side1 ?side2 ?side3 ?side4 A145.out).mono ?_
                    (case side1 => repeat (first | exact (Kd.C_below HR110_4.out HB.out) | (with_reducible refine Kd.C_alloc ?_ _) | (with_reducible refine Kd.C_drewN ?_ _) | (with_reducible refine Kd.C_drew ?_)))
                    (case side2 => exact HC110_4.out)
                    (case side3 => repeat (first | exact (Kd.C_below HR110_5.out HB.out) | (with_reducible refine Kd.C_alloc ?_ _) | (with_reducible refine Kd.C_drewN ?_ _) | (with_reducible refine Kd.C_drew ?_)))
                    (case side4 => exact HC110_5.out)
                    rintro e w159 ⟨rfl, hb⟩
                    refine ⟨_, rfl, ?_⟩
                    have n0_ := Aside0.mk (blk_below (g := gb106) (o := .cells #[.int .i64 a0_0, .int .i64 a0_1, .float .f64 a0_2, .string a0_3, .slice (some ad112) l0_4.length c0_4, .slice (some ad110) l0_5.length c0_5] 31 (0, 0)) (by (with_reducible repeat first | apply blk_drewN | apply blk_drew | apply blk_alloc); exact BK106.out) hb)
                    have n1_ := Aside0.mk (blk_below (g := gb107) (o := .cells #[.int .i64 a0_0, .int .i64 a0_1, .float .f64 a0_2, .string a0_3, .slice none 0 0, .slice none 0 0] 31 (0, 0)) (by (with_reducible repeat first | apply blk_drewN | apply blk_drew | apply blk_alloc); exact BK107.out) hb)
                    have n2_ := Aside0.mk (blk_below (g := gb108) (o := .cells #[.int .i64 a0_0, .int .i64 x109001_2, .float .f64 x109002_2, .string x109003_2, .slice none 0 0, .slice none 0 0] 31 (0, 0)) (by (with_reducible repeat first | apply blk_drewN | apply blk_drew | apply blk_alloc); exact BK108.out) hb)
                    have n3_ := Aside0.mk (below_step (by repeat (first | (with_reducible first | exact HB.out | apply below_alloc | apply pw_below_drewN | apply below_drew1 | refine below_set ?_ GE106.out | refine below_set ?_ GE107.out | refine below_set ?_ GE108.out) | exact HB.out)) hb)
                    clear BK106
                    clear BK107
                    clear BK108
                    clear HB
                    have BK106 := n0_
                    have BK107 := n1_
                    have BK108 := n2_
                    have HB := n3_
                    clear n0_ n1_ n2_ n3_
                    (try clear hb)
                    (try clear hb2)
                    (try clear hk)
                    (try clear hi)
                    refine hK.out _ _ ⟨(blk_cell BK106.out 0).trans rfl, (blk_cell BK106.out 1).trans rfl, (blk_cell BK106.out 2).trans rfl, (blk_cell BK106.out 3).trans rfl, (blk_cell BK106.out 4).trans rfl, (blk_cell BK106.out 5).trans rfl, ((HB.out.cell (World.block_lt_of_cell? w _ hw110_0)).trans hw110_0), ((HB.out.cell (World.block_lt_of_cell? w _ hw110_1)).trans hw110_1), ((HB.out.cell (World.block_lt_of_cell? w _ hw110_2)).trans hw110_2), ((HB.out.cell (World.block_lt_of_cell? w _ hw110_3)).trans hw110_3), ((HB.out.cell (World.block_lt_of_cell? w _ hw110_4)).trans hw110_4), ((HB.out.cell (World.block_lt_of_cell? w _ hw110_5)).trans hw110_5), ((HB.out.cell (World.block_lt_of_cell? w _ hw112_0)).trans hw112_0)⟩ (fun hHeld => ?_)
                    clear hK K
                    refine norm_ (a' := ?_) ?_ ?_
                    rotate_left
                    ·
                     show Act.put _ (some 123) _ = _
                     go_frame; try simp only [i64_w, i32_w]
                     rfl
                    refine pure_ (i := 8) (N := some 124) (v := ?_) (a' := ?_) (bn_ 41 511) rfl rfl (any_of HT_.out (by kernel_rfl)) (fun _ _ _ h => h) (Or.inl ⟨by rfl, ?_⟩) ?_ ?_
                    rotate_left; (intro w'; go_simp; with_reducible rfl)
                    rotate_left; (go_frame; (try simp only [w_]); rfl)
                    refine pure_ (i := 9) (N := some 125) (v := ?_) (a' := ?_) (bn_ 41 1023) rfl rfl (any_of HT_.out (by kernel_rfl)) (fun _ _ _ h => h) (Or.inl ⟨by rfl, ?_⟩) ?_ ?_
                    rotate_left; (intro w'; go_simp; with_reducible rfl)
                    rotate_left; (go_frame; (try simp only [w_]); rfl)
                    refine pure_ (i := 10) (N := some 126) (v := ?_) (a' := ?_) (bn_ 41 2047) rfl rfl (any_of HT_.out (by kernel_rfl)) (fun _ _ _ h => h) (Or.inl ⟨by rfl, ?_⟩) ?_ ?_
                    rotate_left; (intro w'; go_simp; with_reducible rfl)
                    rotate_left; (go_frame; (try simp only [w_]); rfl)
                    refine take_ (i := 11) (N := some 127) (v := ?_) (a' := ?_) (bn_ 41 4095) rfl rfl (take_ofW HT_.out HW_.out (by kernel_rfl)) (fun _ _ _ h => h) (Or.inl ⟨by rfl, ?_⟩) hHeld ?_ ?_
                    rotate_left
                    ·
                     rintro w' ⟨s0, s1, s2, s3, s4, s5, s6, s7, s8, s9, s10, s11, s12⟩
                     go_simp
                     with_reducible rfl
                    rotate_left; (go_frame; (try simp only [w_]); rfl)
                    refine pure_ (i := 12) (N := some 128) (v := ?_) (a' := ?_) (bn_ 41 8191) rfl rfl (any_of HT_.out (by kernel_rfl)) (fun _ _ _ h => h) (Or.inl ⟨by rfl, ?_⟩) ?_ ?_
                    rotate_left; (intro w'; go_simp; with_reducible rfl)
                    rotate_left; (go_frame; (try simp only [w_]); rfl)
                    refine pure_ (i := 13) (N := some 129) (v := ?_) (a' := ?_) (bn_ 41 16383) rfl rfl (any_of HT_.out (by kernel_rfl)) (fun _ _ _ h => h) (Or.inl ⟨by rfl, ?_⟩) ?_ ?_
                    rotate_left; (intro w'; go_simp; with_reducible rfl)
                    rotate_left; (go_frame; (try simp only [w_]); rfl)
                    refine pure_ (i := 14) (N := some 130) (v := ?_) (a' := ?_) (bn_ 41 32767) rfl rfl (any_of HT_.out (by kernel_rfl)) (fun _ _ _ h => h) (Or.inl ⟨by rfl, ?_⟩) ?_ ?_
                    rotate_left; (intro w'; go_simp; with_reducible rfl)
                    rotate_left; (go_frame; (try simp only [w_]); rfl)
                    refine pure_ (i := 16) (N := some 132) (v := ?_) (a' := ?_) (bn_ 41 98303) rfl rfl (any_of HT_.out (by kernel_rfl)) (fun _ _ _ h => h) (Or.inl ⟨by rfl, ?_⟩) ?_ ?_
                    rotate_left; (intro w'; go_simp; with_reducible rfl)
                    rotate_left; (go_frame; (try simp only [w_]); rfl)
                    refine take_ (i := 15) (N := some 131) (v := ?_) (a' := ?_) (bn_ 41 131071) rfl rfl (take_ofW HT_.out HW_.out (by kernel_rfl)) (fun _ _ _ h => h) (Or.inl ⟨by rfl, ?_⟩) hHeld ?_ ?_
                    rotate_left
                    ·
                     rintro w' ⟨s0, s1, s2, s3, s4, s5, s6, s7, s8, s9, s10, s11, s12⟩
                     go_simp
                     with_reducible rfl
                    rotate_left; (go_frame; (try simp only [w_]); rfl)
                    refine pure_ (i := 17) (N := some 133) (v := ?_) (a' := ?_) (bn_ 41 262143) rfl rfl (any_of HT_.out (by kernel_rfl)) (fun _ _ _ h => h) (Or.inl ⟨by rfl, ?_⟩) ?_ ?_
                    rotate_left; (intro w'; go_simp; with_reducible rfl)
                    rotate_left; (go_frame; (try simp only [w_]); rfl)
                    refine take_ (i := 18) (N := some 134) (v := ?_) (a' := ?_) (bn_ 41 524287) rfl rfl (take_ofW HT_.out HW_.out (by kernel_rfl)) (fun _ _ _ h => h) (Or.inl ⟨by rfl, ?_⟩) hHeld ?_ ?_
                    rotate_left
                    ·
                     rintro w' ⟨s0, s1, s2, s3, s4, s5, s6, s7, s8, s9, s10, s11, s12⟩
                     go_simp
                     with_reducible rfl
                    rotate_left; (go_frame; (try simp only [w_]); rfl)
                    refine pure_ (i := 19) (N := some 135) (v := ?_) (a' := ?_) (bn_ 41 1048575) rfl rfl (any_of HT_.out (by kernel_rfl)) (fun _ _ _ h => h) (Or.inl ⟨by rfl, ?_⟩) ?_ ?_
                    rotate_left; (intro w'; go_simp; with_reducible rfl)
                    rotate_left; (go_frame; (try simp only [w_]); rfl)
                    refine pure_ (i := 20) (N := some 136) (v := ?_) (a' := ?_) (bn_ 41 2097151) rfl rfl (any_of HT_.out (by kernel_rfl)) (fun _ _ _ h => h) (Or.inl ⟨by rfl, ?_⟩) ?_ ?_
                    rotate_left; (intro w'; go_simp; with_reducible rfl)
                    rotate_left; (go_frame; (try simp only [w_]); rfl)
                    refine pure_ (i := 21) (N := some 137) (v := ?_) (a' := ?_) (bn_ 41 4194303) rfl rfl (any_of HT_.out (by kernel_rfl)) (fun _ _ _ h => h) (Or.inl ⟨by rfl, ?_⟩) ?_ ?_
                    rotate_left; (intro w'; go_simp; with_reducible rfl)
                    rotate_left; (go_frame; (try simp only [w_]); rfl)
                    refine pure_ (i := 22) (N := some 138) (v := ?_) (a' := ?_) (bn_ 41 8388607) rfl rfl (any_of HT_.out (by kernel_rfl)) (fun _ _ _ h => h) (Or.inl ⟨by rfl, ?_⟩) ?_ ?_
                    rotate_left; (intro w'; go_simp; with_reducible rfl)
                    rotate_left; (go_frame; (try simp only [w_]); rfl)
                    refine pure_ (i := 23) (N := some 139) (v := ?_) (a' := ?_) (bn_ 41 16777215) rfl rfl (any_of HT_.out (by kernel_rfl)) (fun _ _ _ h => h) (Or.inl ⟨by rfl, ?_⟩) ?_ ?_
                    rotate_left; (intro w'; go_simp; with_reducible rfl)
                    rotate_left; (go_frame; (try simp only [w_]); rfl)
                    refine pure_ (i := 24) (N := some 140) (v := ?_) (a' := ?_) (bn_ 41 33554431) rfl rfl (any_of HT_.out (by kernel_rfl)) (fun _ _ _ h => h) (Or.inl ⟨by rfl, ?_⟩) ?_ ?_
                    rotate_left; (intro w'; go_simp; with_reducible rfl)
                    rotate_left; (go_frame; (try simp only [w_]); rfl)
                    refine pure_ (i := 25) (N := some 141) (v := undef) (a' := ?_) (bn_ 41 67108863) rfl rfl (any_of HT_.out (by kernel_rfl)) (fun _ _ _ h => h) (Or.inr ⟨by rfl, rfl⟩) ?_ ?_
                    rotate_left; (go_frame; (try simp only [w_]); rfl)
                    refine pure_ (i := 26) (N := some 142) (v := undef) (a' := ?_) (bn_ 41 134217727) rfl rfl (any_of HT_.out (by kernel_rfl)) (fun _ _ _ h => h) (Or.inr ⟨by rfl, rfl⟩) ?_ ?_
                    rotate_left; (go_frame; (try simp only [w_]); rfl)
                    refine pure_ (i := 27) (N := some 143) (v := undef) (a' := ?_) (bn_ 41 268435455) rfl rfl (any_of HT_.out (by kernel_rfl)) (fun _ _ _ h => h) (Or.inr ⟨by rfl, rfl⟩) ?_ ?_
                    rotate_left; (go_frame; (try simp only [w_]); rfl)
                    refine pure_ (i := 28) (N := some 144) (v := undef) (a' := ?_) (bn_ 41 536870911) rfl rfl (any_of HT_.out (by kernel_rfl)) (fun _ _ _ h => h) (Or.inr ⟨by rfl, rfl⟩) ?_ ?_
                    rotate_left; (go_frame; (try simp only [w_]); rfl)
                    refine pure_ (i := 29) (N := some 145) (v := undef) (a' := ?_) (bn_ 41 1073741823) rfl rfl (any_of HT_.out (by kernel_rfl)) (fun _ _ _ h => h) (Or.inr ⟨by rfl, rfl⟩) ?_ ?_
                    rotate_left; (go_frame; (try simp only [w_]); rfl)
                    refine pure_ (i := 30) (N := some 146) (v := undef) (a' := ?_) (bn_ 41 2147483647) rfl rfl (any_of HT_.out (by kernel_rfl)) (fun _ _ _ h => h) (Or.inr ⟨by rfl, rfl⟩) ?_ ?_
                    rotate_left; (go_frame; (try simp only [w_]); rfl)
                    refine pure_ (i := 31) (N := some 147) (v := undef) (a' := ?_) (bn_ 41 4294967295) rfl rfl (any_of HT_.out (by kernel_rfl)) (fun _ _ _ h => h) (Or.inr ⟨by rfl, rfl⟩) ?_ ?_
                    rotate_left; (go_frame; (try simp only [w_]); rfl)
                    refine pure_ (i := 32) (N := some 148) (v := undef) (a' := ?_) (bn_ 41 8589934591) rfl rfl (any_of HT_.out (by kernel_rfl)) (fun _ _ _ h => h) (Or.inr ⟨by rfl, rfl⟩) ?_ ?_
                    rotate_left; (go_frame; (try simp only [w_]); rfl)
                    refine pure_ (i := 33) (N := some 149) (v := undef) (a' := ?_) (bn_ 41 17179869183) rfl rfl (any_of HT_.out (by kernel_rfl)) (fun _ _ _ h => h) (Or.inr ⟨by rfl, rfl⟩) ?_ ?_
                    rotate_left; (go_frame; (try simp only [w_]); rfl)
                    refine pure_ (i := 34) (N := some 150) (v := undef) (a' := ?_) (bn_ 41 34359738367) rfl rfl (any_of HT_.out (by kernel_rfl)) (fun _ _ _ h => h) (Or.inr ⟨by rfl, rfl⟩) ?_ ?_
                    rotate_left; (go_frame; (try simp only [w_]); rfl)
                    refine pure_ (i := 35) (N := some 151) (v := undef) (a' := ?_) (bn_ 41 68719476735) rfl rfl (any_of HT_.out (by kernel_rfl)) (fun _ _ _ h => h) (Or.inr ⟨by rfl, rfl⟩) ?_ ?_
                    rotate_left; (go_frame; (try simp only [w_]); rfl)
                    refine pure_ (i := 36) (N := some 152) (v := undef) (a' := ?_) (bn_ 41 137438953471) rfl rfl (any_of HT_.out (by kernel_rfl)) (fun _ _ _ h => h) (Or.inr ⟨by rfl, rfl⟩) ?_ ?_
                    rotate_left; (go_frame; (try simp only [w_]); rfl)
                    refine pure_ (i := 37) (N := some 153) (v := ?_) (a' := ?_) (bn_ 41 274877906943) rfl rfl (any_of HT_.out (by kernel_rfl)) (fun _ _ _ h => h) (Or.inl ⟨by rfl, ?_⟩) ?_ ?_
                    rotate_left; (intro w'; go_simp; with_reducible rfl)
                    rotate_left; (go_frame; (try simp only [w_]); rfl)
                    refine pure_ (i := 38) (N := some 154) (v := ?_) (a' := ?_) (bn_ 41 549755813887) rfl rfl (any_of HT_.out (by kernel_rfl)) (fun _ _ _ h => h) (Or.inl ⟨by rfl, ?_⟩) ?_ ?_
                    rotate_left; (intro w'; go_simp; with_reducible rfl)
                    rotate_left; (go_frame; (try simp only [w_]); rfl)
                    refine pure_ (i := 39) (N := some 155) (v := ?_) (a' := ?_) (bn_ 41 1099511627775) rfl rfl (any_of HT_.out (by kernel_rfl)) (fun _ _ _ h => h) (Or.inl ⟨by rfl, ?_⟩) ?_ ?_
                    rotate_left; (intro w'; go_simp; with_reducible rfl)
                    rotate_left; (go_frame; (try simp only [w_]); rfl)
                    refine pure_ (i := 40) (N := some 156) (v := ?_) (a' := ?_) (bn_ 41 2199023255551) rfl rfl (any_of HT_.out (by kernel_rfl)) (fun _ _ _ h => h) (Or.inl ⟨by rfl, ?_⟩) ?_ ?_
                    rotate_left; (intro w'; go_simp; with_reducible rfl)
                    rotate_left; (go_frame; (try simp only [w_]); rfl)
                    refine done_ (done_of HT_.out (by kernel_rfl)) ?_
                    try go_wp2
                    go_meet
                    case rel => exact ⟨_, (false), (by first | rfl | (simp only [bytesLe_not]; done) | (simp; done) | (simp [*]; done)), H', ⟨by have := HJ2.out; have := HJ44.out; have := HJ125.out; have := HK4.out; first | omega | exact Nat.le_refl _⟩, ⟨by (with_reducible repeat first | apply blk_drewN | apply blk_drew | apply blk_alloc); exact BK106.out⟩, ⟨by (with_reducible repeat first | apply blk_drewN | apply blk_drew | apply blk_alloc); exact BK107.out⟩, ⟨by (with_reducible repeat first | apply blk_drewN | apply blk_drew | apply blk_alloc); exact BK108.out⟩, ⟨by repeat (first | (with_reducible first | exact HB.out | apply below_alloc | apply pw_below_drewN | apply below_drew1 | refine below_set ?_ GE106.out | refine below_set ?_ GE107.out | refine below_set ?_ GE108.out) | exact HB.out)⟩⟩
                ·
                 rw [if_neg c148] at H
                 exact absurd H (by simp)
               ·
                rw [if_neg c147] at H
                have c147b0 : (a0_0 == 7) = false := beq_eq_false_iff_ne.mpr c147
                have c147b1 : (a0_0 != 7) = true := bne_iff_ne.mpr c147
                as_aux_lemma =>
                 have H' := Aside0.mk H
                 clear H
                 try go_wp2
                 have n0_ := Aside0.mk (blk_drew BK106.out)
                 have n1_ := Aside0.mk (blk_drew BK107.out)
                 have n2_ := Aside0.mk (blk_drew BK108.out)
                 have n3_ := Aside0.mk (below_drew1 HB.out)
                 clear BK106
                 clear BK107
                 clear BK108
                 clear HB
                 have BK106 := n0_
                 have BK107 := n1_
                 have BK108 := n2_
                 have HB := n3_
                 clear n0_ n1_ n2_ n3_
                 have p110 : 0 ≤ (x7_4 : Int) := of_decide_eq_true (by first | (with_reducible assumption) | assumption)
                 have q110 : x7_4 < (l0_5.length : Int) := of_decide_eq_true (by first | (with_reducible assumption) | assumption)
                 obtain ⟨ad110, A110_4, c110_4, A110_5, c110_5, e110, hx110_0, hx110_1, hx110_2, hx110_3, hx110_4, hx110_5, hl110_4, hi110_4, hl110_5, hi110_5⟩ := at_T31 HR0_5.out x7_4 p110 q110
                 have hw110_5 := hx110_5
                 have hw110_4 := hx110_4
                 have hw110_3 := hx110_3
                 have hw110_2 := hx110_2
                 have hw110_1 := hx110_1
                 have hw110_0 := hx110_0
                 cases e110
                 replace hx110_0 := (HB.out.cell (World.block_lt_of_cell? w _ hx110_0)).trans hx110_0
                 replace hx110_1 := (HB.out.cell (World.block_lt_of_cell? w _ hx110_1)).trans hx110_1
                 replace hx110_2 := (HB.out.cell (World.block_lt_of_cell? w _ hx110_2)).trans hx110_2
                 replace hx110_3 := (HB.out.cell (World.block_lt_of_cell? w _ hx110_3)).trans hx110_3
                 replace hx110_4 := (HB.out.cell (World.block_lt_of_cell? w _ hx110_4)).trans hx110_4
                 replace hx110_5 := (HB.out.cell (World.block_lt_of_cell? w _ hx110_5)).trans hx110_5
                 have HR110_4 := Aside0.mk hi110_4
                 have HC110_4 := Aside0.mk hl110_4
                 clear hi110_4 hl110_4
                 have HR110_5 := Aside0.mk hi110_5
                 have HC110_5 := Aside0.mk hl110_5
                 clear hi110_5 hl110_5
                 replace p110 := eq_true p110
                 replace q110 := eq_true q110
                 refine start_ (n := 41) (S := fun w' => w'.cell? ⟨gb106, 0, none⟩ = some (.int .i64 a0_0) ∧ w'.cell? ⟨gb106, 1, none⟩ = some (.int .i64 a0_1) ∧ w'.cell? ⟨gb106, 2, none⟩ = some (.float .f64 a0_2) ∧ w'.cell? ⟨gb106, 3, none⟩ = some (.string a0_3) ∧ w'.cell? ⟨gb106, 4, none⟩ = some (.slice A0_4 l0_4.length c0_4) ∧ w'.cell? ⟨gb106, 5, none⟩ = some (.slice (some ad110) l0_5.length c0_5) ∧ w'.cell? (ad110.add ((x7_4).toNat * 6)) = some (.int .i64 ((rd_T31 l0_5 x7_4).f0)) ∧ w'.cell? ⟨(ad110.add ((x7_4).toNat * 6)).block, (ad110.add ((x7_4).toNat * 6)).off + 1, none⟩ = some (.int .i64 ((rd_T31 l0_5 x7_4).f1)) ∧ w'.cell? ⟨(ad110.add ((x7_4).toNat * 6)).block, (ad110.add ((x7_4).toNat * 6)).off + 2, none⟩ = some (.float .f64 ((rd_T31 l0_5 x7_4).f2)) ∧ w'.cell? ⟨(ad110.add ((x7_4).toNat * 6)).block, (ad110.add ((x7_4).toNat * 6)).off + 3, none⟩ = some (.string ((rd_T31 l0_5 x7_4).f3)) ∧ w'.cell? ⟨(ad110.add ((x7_4).toNat * 6)).block, (ad110.add ((x7_4).toNat * 6)).off + 4, none⟩ = some (.slice A110_4 ((rd_T31 l0_5 x7_4).f4).length c110_4) ∧ w'.cell? ⟨(ad110.add ((x7_4).toNat * 6)).block, (ad110.add ((x7_4).toNat * 6)).off + 5, none⟩ = some (.slice A110_5 ((rd_T31 l0_5 x7_4).f5).length c110_5)) (ds := []) (bn_ 41 0) (by kernel_rfl) rfl rfl ⟨(blk_cell BK106.out 0).trans rfl, (blk_cell BK106.out 1).trans rfl, (blk_cell BK106.out 2).trans rfl, (blk_cell BK106.out 3).trans rfl, (blk_cell BK106.out 4).trans rfl, (blk_cell BK106.out 5).trans rfl, ((HB.out.cell (World.block_lt_of_cell? w _ hw110_0)).trans hw110_0), ((HB.out.cell (World.block_lt_of_cell? w _ hw110_1)).trans hw110_1), ((HB.out.cell (World.block_lt_of_cell? w _ hw110_2)).trans hw110_2), ((HB.out.cell (World.block_lt_of_cell? w _ hw110_3)).trans hw110_3), ((HB.out.cell (World.block_lt_of_cell? w _ hw110_4)).trans hw110_4), ((HB.out.cell (World.block_lt_of_cell? w _ hw110_5)).trans hw110_5)⟩ (fun hHeld => ?_); refine with_tabW spec_right.tab25 spec_right.bits25 (fun HT_ HW_ => ?_)
                 generalize wr.drew = w160 at BK106 BK107 BK108 HB HR110_4 HR110_5 hx110_0 hx110_1 hx110_2 hx110_3 hx110_4 hx110_5 hHeld ⊢
                 refine pure_ (i := 0) (N := some 116) (v := ?_) (a' := ?_) (bn_ 41 1) rfl rfl (any_of HT_.out (by kernel_rfl)) (fun _ _ _ h => h) (Or.inl ⟨by rfl, ?_⟩) ?_ ?_
                 rotate_left; (intro w'; go_simp; with_reducible rfl)
                 rotate_left; (go_frame; (try simp only [w_]); rfl)
                 refine pure_ (i := 2) (N := some 118) (v := ?_) (a' := ?_) (bn_ 41 5) rfl rfl (any_of HT_.out (by kernel_rfl)) (fun _ _ _ h => h) (Or.inl ⟨by rfl, ?_⟩) ?_ ?_
                 rotate_left; (intro w'; go_simp; with_reducible rfl)
                 rotate_left; (go_frame; (try simp only [w_]); rfl)
                 refine pure_ (i := 5) (N := some 121) (v := ?_) (a' := ?_) (bn_ 41 37) rfl rfl (any_of HT_.out (by kernel_rfl)) (fun _ _ _ h => h) (Or.inl ⟨by rfl, ?_⟩) ?_ ?_
                 rotate_left; (intro w'; go_simp; with_reducible rfl)
                 rotate_left; (go_frame; (try simp only [w_]); rfl)
                 refine pure_ (i := 6) (N := some 122) (v := ?_) (a' := ?_) (bn_ 41 101) rfl rfl (any_of HT_.out (by kernel_rfl)) (fun _ _ _ h => h) (Or.inl ⟨by rfl, ?_⟩) ?_ ?_
                 rotate_left; (intro w'; go_simp; with_reducible rfl)
                 rotate_left; (go_frame; (try simp only [w_]); rfl)
                 refine take_ (i := 1) (N := some 117) (v := ?_) (a' := ?_) (bn_ 41 103) rfl rfl (take_ofW HT_.out HW_.out (by kernel_rfl)) (fun _ _ _ h => h) (Or.inl ⟨by rfl, ?_⟩) hHeld ?_ ?_
                 rotate_left
                 ·
                  rintro w' ⟨s0, s1, s2, s3, s4, s5, s6, s7, s8, s9, s10, s11⟩
                  go_simp
                  with_reducible rfl
                 rotate_left; (go_frame; (try simp only [w_]); rfl)
                 refine pure_ (i := 3) (N := some 119) (v := ?_) (a' := ?_) (bn_ 41 111) rfl rfl (any_of HT_.out (by kernel_rfl)) (fun _ _ _ h => h) (Or.inl ⟨by rfl, ?_⟩) ?_ ?_
                 rotate_left; (intro w'; go_simp; with_reducible rfl)
                 rotate_left; (go_frame; (try simp only [w_]); rfl)
                 refine take_ (i := 4) (N := some 120) (v := ?_) (a' := ?_) (bn_ 41 127) rfl rfl (take_ofW HT_.out HW_.out (by kernel_rfl)) (fun _ _ _ h => h) (Or.inl ⟨by rfl, ?_⟩) hHeld ?_ ?_
                 rotate_left
                 ·
                  rintro w' ⟨s0, s1, s2, s3, s4, s5, s6, s7, s8, s9, s10, s11⟩
                  go_simp
                  with_reducible rfl
                 rotate_left; (go_frame; (try simp only [w_]); rfl)
                 refine one_ (i := 7) (N := some 123) (bn_ 41 255) rfl rfl (one_of HT_.out (by kernel_rfl)) (by decide) (fun K hK => ?_)
                 refine goes_ Try.func17 (by kernel_rfl) rfl #[.agg #[.int .i64 ((rd_T31 l0_5 x7_4).f0), .int .i64 ((rd_T31 l0_5 x7_4).f1), .float .f64 ((rd_T31 l0_5 x7_4).f2), .string ((rd_T31 l0_5 x7_4).f3), .slice A110_4 ((rd_T31 l0_5 x7_4).f4).length c110_4, .slice A110_5 ((rd_T31 l0_5 x7_4).f5).length c110_5], .int .i64 (wrap64 (a1 - 1))] (by rfl) rfl rfl (by (try simp only [List.map_toArray, List.map_cons, List.map_nil]); first | done | rfl | (simp only [List.length_drop, List.length_take]; rfl)) ?_
                 with_reducible refine (ih k4 (by have := HJ2.out; have := HJ44.out; have := HJ125.out; have := HK4.out; omega) ((rd_T31 l0_5 x7_4).f0) ((rd_T31 l0_5 x7_4).f1) ((rd_T31 l0_5 x7_4).f2) ((rd_T31 l0_5 x7_4).f3) _ _ ((rd_T31 l0_5 x7_4).f4) _ _ ((rd_T31 l0_5 x7_4).f5) (wrap64 (a1 - 1)) true _ ?side1 ?side2 ?side3 ?side4 A145.out).mono ?_
                 (case side1 => repeat (first | exact (Kd.C_below HR110_4.out HB.out) | (with_reducible refine Kd.C_alloc ?_ _) | (with_reducible refine Kd.C_drewN ?_ _) | (with_reducible refine Kd.C_drew ?_)))
                 (case side2 => exact HC110_4.out)
                 (case side3 => repeat (first | exact (Kd.C_below HR110_5.out HB.out) | (with_reducible refine Kd.C_alloc ?_ _) | (with_reducible refine Kd.C_drewN ?_ _) | (with_reducible refine Kd.C_drew ?_)))
                 (case side4 => exact HC110_5.out)
                 rintro e w161 ⟨rfl, hb⟩
                 refine ⟨_, rfl, ?_⟩
                 have n0_ := Aside0.mk (blk_below (g := gb106) (o := .cells #[.int .i64 a0_0, .int .i64 a0_1, .float .f64 a0_2, .string a0_3, .slice A0_4 l0_4.length c0_4, .slice (some ad110) l0_5.length c0_5] 31 (0, 0)) (by (with_reducible repeat first | apply blk_drewN | apply blk_drew | apply blk_alloc); exact BK106.out) hb)
                 have n1_ := Aside0.mk (blk_below (g := gb107) (o := .cells #[.int .i64 a0_0, .int .i64 a0_1, .float .f64 a0_2, .string a0_3, .slice none 0 0, .slice none 0 0] 31 (0, 0)) (by (with_reducible repeat first | apply blk_drewN | apply blk_drew | apply blk_alloc); exact BK107.out) hb)
                 have n2_ := Aside0.mk (blk_below (g := gb108) (o := .cells #[.int .i64 a0_0, .int .i64 x109001_2, .float .f64 x109002_2, .string x109003_2, .slice none 0 0, .slice none 0 0] 31 (0, 0)) (by (with_reducible repeat first | apply blk_drewN | apply blk_drew | apply blk_alloc); exact BK108.out) hb)
                 have n3_ := Aside0.mk (below_step (by repeat (first | (with_reducible first | exact HB.out | apply below_alloc | apply pw_below_drewN | apply below_drew1 | refine below_set ?_ GE106.out | refine below_set ?_ GE107.out | refine below_set ?_ GE108.out) | exact HB.out)) hb)
                 clear BK106
                 clear BK107
                 clear BK108
                 clear HB
                 have BK106 := n0_
                 have BK107 := n1_
                 have BK108 := n2_
                 have HB := n3_
                 clear n0_ n1_ n2_ n3_
                 (try clear hb)
                 (try clear hb2)
                 (try clear hk)
                 (try clear hi)
                 refine hK.out _ _ ⟨(blk_cell BK106.out 0).trans rfl, (blk_cell BK106.out 1).trans rfl, (blk_cell BK106.out 2).trans rfl, (blk_cell BK106.out 3).trans rfl, (blk_cell BK106.out 4).trans rfl, (blk_cell BK106.out 5).trans rfl, ((HB.out.cell (World.block_lt_of_cell? w _ hw110_0)).trans hw110_0), ((HB.out.cell (World.block_lt_of_cell? w _ hw110_1)).trans hw110_1), ((HB.out.cell (World.block_lt_of_cell? w _ hw110_2)).trans hw110_2), ((HB.out.cell (World.block_lt_of_cell? w _ hw110_3)).trans hw110_3), ((HB.out.cell (World.block_lt_of_cell? w _ hw110_4)).trans hw110_4), ((HB.out.cell (World.block_lt_of_cell? w _ hw110_5)).trans hw110_5)⟩ (fun hHeld => ?_)
                 clear hK K
                 refine norm_ (a' := ?_) ?_ ?_
                 rotate_left
                 ·
                  show Act.put _ (some 123) _ = _
                  go_frame; try simp only [i64_w, i32_w]
                  rfl
                 refine pure_ (i := 8) (N := some 124) (v := ?_) (a' := ?_) (bn_ 41 511) rfl rfl (any_of HT_.out (by kernel_rfl)) (fun _ _ _ h => h) (Or.inl ⟨by rfl, ?_⟩) ?_ ?_
                 rotate_left; (intro w'; go_simp; with_reducible rfl)
                 rotate_left; (go_frame; (try simp only [w_]); rfl)
                 refine pure_ (i := 9) (N := some 125) (v := ?_) (a' := ?_) (bn_ 41 1023) rfl rfl (any_of HT_.out (by kernel_rfl)) (fun _ _ _ h => h) (Or.inl ⟨by rfl, ?_⟩) ?_ ?_
                 rotate_left; (intro w'; go_simp; with_reducible rfl)
                 rotate_left; (go_frame; (try simp only [w_]); rfl)
                 refine pure_ (i := 10) (N := some 126) (v := ?_) (a' := ?_) (bn_ 41 2047) rfl rfl (any_of HT_.out (by kernel_rfl)) (fun _ _ _ h => h) (Or.inl ⟨by rfl, ?_⟩) ?_ ?_
                 rotate_left; (intro w'; go_simp; with_reducible rfl)
                 rotate_left; (go_frame; (try simp only [w_]); rfl)
                 refine take_ (i := 11) (N := some 127) (v := ?_) (a' := ?_) (bn_ 41 4095) rfl rfl (take_ofW HT_.out HW_.out (by kernel_rfl)) (fun _ _ _ h => h) (Or.inl ⟨by rfl, ?_⟩) hHeld ?_ ?_
                 rotate_left
                 ·
                  rintro w' ⟨s0, s1, s2, s3, s4, s5, s6, s7, s8, s9, s10, s11⟩
                  go_simp
                  with_reducible rfl
                 rotate_left; (go_frame; (try simp only [w_]); rfl)
                 refine pure_ (i := 12) (N := some 128) (v := ?_) (a' := ?_) (bn_ 41 8191) rfl rfl (any_of HT_.out (by kernel_rfl)) (fun _ _ _ h => h) (Or.inl ⟨by rfl, ?_⟩) ?_ ?_
                 rotate_left; (intro w'; go_simp; with_reducible rfl)
                 rotate_left; (go_frame; (try simp only [w_]); rfl)
                 refine pure_ (i := 13) (N := some 129) (v := ?_) (a' := ?_) (bn_ 41 16383) rfl rfl (any_of HT_.out (by kernel_rfl)) (fun _ _ _ h => h) (Or.inl ⟨by rfl, ?_⟩) ?_ ?_
                 rotate_left; (intro w'; go_simp; with_reducible rfl)
                 rotate_left; (go_frame; (try simp only [w_]); rfl)
                 refine pure_ (i := 14) (N := some 130) (v := undef) (a' := ?_) (bn_ 41 32767) rfl rfl (any_of HT_.out (by kernel_rfl)) (fun _ _ _ h => h) (Or.inr ⟨by rfl, rfl⟩) ?_ ?_
                 rotate_left; (go_frame; (try simp only [w_]); rfl)
                 refine pure_ (i := 15) (N := some 131) (v := undef) (a' := ?_) (bn_ 41 65535) rfl rfl (any_of HT_.out (by kernel_rfl)) (fun _ _ _ h => h) (Or.inr ⟨by rfl, rfl⟩) ?_ ?_
                 rotate_left; (go_frame; (try simp only [w_]); rfl)
                 refine pure_ (i := 16) (N := some 132) (v := undef) (a' := ?_) (bn_ 41 131071) rfl rfl (any_of HT_.out (by kernel_rfl)) (fun _ _ _ h => h) (Or.inr ⟨by rfl, rfl⟩) ?_ ?_
                 rotate_left; (go_frame; (try simp only [w_]); rfl)
                 refine pure_ (i := 17) (N := some 133) (v := undef) (a' := ?_) (bn_ 41 262143) rfl rfl (any_of HT_.out (by kernel_rfl)) (fun _ _ _ h => h) (Or.inr ⟨by rfl, rfl⟩) ?_ ?_
                 rotate_left; (go_frame; (try simp only [w_]); rfl)
                 refine pure_ (i := 18) (N := some 134) (v := undef) (a' := ?_) (bn_ 41 524287) rfl rfl (any_of HT_.out (by kernel_rfl)) (fun _ _ _ h => h) (Or.inr ⟨by rfl, rfl⟩) ?_ ?_
                 rotate_left; (go_frame; (try simp only [w_]); rfl)
                 refine pure_ (i := 19) (N := some 135) (v := undef) (a' := ?_) (bn_ 41 1048575) rfl rfl (any_of HT_.out (by kernel_rfl)) (fun _ _ _ h => h) (Or.inr ⟨by rfl, rfl⟩) ?_ ?_
                 rotate_left; (go_frame; (try simp only [w_]); rfl)
                 refine pure_ (i := 20) (N := some 136) (v := undef) (a' := ?_) (bn_ 41 2097151) rfl rfl (any_of HT_.out (by kernel_rfl)) (fun _ _ _ h => h) (Or.inr ⟨by rfl, rfl⟩) ?_ ?_
                 rotate_left; (go_frame; (try simp only [w_]); rfl)
                 refine pure_ (i := 21) (N := some 137) (v := undef) (a' := ?_) (bn_ 41 4194303) rfl rfl (any_of HT_.out (by kernel_rfl)) (fun _ _ _ h => h) (Or.inr ⟨by rfl, rfl⟩) ?_ ?_
                 rotate_left; (go_frame; (try simp only [w_]); rfl)
                 refine pure_ (i := 22) (N := some 138) (v := undef) (a' := ?_) (bn_ 41 8388607) rfl rfl (any_of HT_.out (by kernel_rfl)) (fun _ _ _ h => h) (Or.inr ⟨by rfl, rfl⟩) ?_ ?_
                 rotate_left; (go_frame; (try simp only [w_]); rfl)
                 refine pure_ (i := 23) (N := some 139) (v := undef) (a' := ?_) (bn_ 41 16777215) rfl rfl (any_of HT_.out (by kernel_rfl)) (fun _ _ _ h => h) (Or.inr ⟨by rfl, rfl⟩) ?_ ?_
                 rotate_left; (go_frame; (try simp only [w_]); rfl)
                 refine pure_ (i := 24) (N := some 140) (v := undef) (a' := ?_) (bn_ 41 33554431) rfl rfl (any_of HT_.out (by kernel_rfl)) (fun _ _ _ h => h) (Or.inr ⟨by rfl, rfl⟩) ?_ ?_
                 rotate_left; (go_frame; (try simp only [w_]); rfl)
                 refine pure_ (i := 25) (N := some 141) (v := undef) (a' := ?_) (bn_ 41 67108863) rfl rfl (any_of HT_.out (by kernel_rfl)) (fun _ _ _ h => h) (Or.inr ⟨by rfl, rfl⟩) ?_ ?_
                 rotate_left; (go_frame; (try simp only [w_]); rfl)
                 refine pure_ (i := 26) (N := some 142) (v := undef) (a' := ?_) (bn_ 41 134217727) rfl rfl (any_of HT_.out (by kernel_rfl)) (fun _ _ _ h => h) (Or.inr ⟨by rfl, rfl⟩) ?_ ?_
                 rotate_left; (go_frame; (try simp only [w_]); rfl)
                 refine pure_ (i := 27) (N := some 143) (v := undef) (a' := ?_) (bn_ 41 268435455) rfl rfl (any_of HT_.out (by kernel_rfl)) (fun _ _ _ h => h) (Or.inr ⟨by rfl, rfl⟩) ?_ ?_
                 rotate_left; (go_frame; (try simp only [w_]); rfl)
                 refine pure_ (i := 28) (N := some 144) (v := undef) (a' := ?_) (bn_ 41 536870911) rfl rfl (any_of HT_.out (by kernel_rfl)) (fun _ _ _ h => h) (Or.inr ⟨by rfl, rfl⟩) ?_ ?_
                 rotate_left; (go_frame; (try simp only [w_]); rfl)
                 refine pure_ (i := 29) (N := some 145) (v := undef) (a' := ?_) (bn_ 41 1073741823) rfl rfl (any_of HT_.out (by kernel_rfl)) (fun _ _ _ h => h) (Or.inr ⟨by rfl, rfl⟩) ?_ ?_
                 rotate_left; (go_frame; (try simp only [w_]); rfl)
                 refine pure_ (i := 30) (N := some 146) (v := undef) (a' := ?_) (bn_ 41 2147483647) rfl rfl (any_of HT_.out (by kernel_rfl)) (fun _ _ _ h => h) (Or.inr ⟨by rfl, rfl⟩) ?_ ?_
                 rotate_left; (go_frame; (try simp only [w_]); rfl)
                 refine pure_ (i := 31) (N := some 147) (v := undef) (a' := ?_) (bn_ 41 4294967295) rfl rfl (any_of HT_.out (by kernel_rfl)) (fun _ _ _ h => h) (Or.inr ⟨by rfl, rfl⟩) ?_ ?_
                 rotate_left; (go_frame; (try simp only [w_]); rfl)
                 refine pure_ (i := 32) (N := some 148) (v := undef) (a' := ?_) (bn_ 41 8589934591) rfl rfl (any_of HT_.out (by kernel_rfl)) (fun _ _ _ h => h) (Or.inr ⟨by rfl, rfl⟩) ?_ ?_
                 rotate_left; (go_frame; (try simp only [w_]); rfl)
                 refine pure_ (i := 33) (N := some 149) (v := undef) (a' := ?_) (bn_ 41 17179869183) rfl rfl (any_of HT_.out (by kernel_rfl)) (fun _ _ _ h => h) (Or.inr ⟨by rfl, rfl⟩) ?_ ?_
                 rotate_left; (go_frame; (try simp only [w_]); rfl)
                 refine pure_ (i := 34) (N := some 150) (v := undef) (a' := ?_) (bn_ 41 34359738367) rfl rfl (any_of HT_.out (by kernel_rfl)) (fun _ _ _ h => h) (Or.inr ⟨by rfl, rfl⟩) ?_ ?_
                 rotate_left; (go_frame; (try simp only [w_]); rfl)
                 refine pure_ (i := 35) (N := some 151) (v := undef) (a' := ?_) (bn_ 41 68719476735) rfl rfl (any_of HT_.out (by kernel_rfl)) (fun _ _ _ h => h) (Or.inr ⟨by rfl, rfl⟩) ?_ ?_
                 rotate_left; (go_frame; (try simp only [w_]); rfl)
                 refine pure_ (i := 36) (N := some 152) (v := undef) (a' := ?_) (bn_ 41 137438953471) rfl rfl (any_of HT_.out (by kernel_rfl)) (fun _ _ _ h => h) (Or.inr ⟨by rfl, rfl⟩) ?_ ?_
                 rotate_left; (go_frame; (try simp only [w_]); rfl)
                 refine pure_ (i := 37) (N := some 153) (v := undef) (a' := ?_) (bn_ 41 274877906943) rfl rfl (any_of HT_.out (by kernel_rfl)) (fun _ _ _ h => h) (Or.inr ⟨by rfl, rfl⟩) ?_ ?_
                 rotate_left; (go_frame; (try simp only [w_]); rfl)
                 refine pure_ (i := 38) (N := some 154) (v := undef) (a' := ?_) (bn_ 41 549755813887) rfl rfl (any_of HT_.out (by kernel_rfl)) (fun _ _ _ h => h) (Or.inr ⟨by rfl, rfl⟩) ?_ ?_
                 rotate_left; (go_frame; (try simp only [w_]); rfl)
                 refine pure_ (i := 39) (N := some 155) (v := ?_) (a' := ?_) (bn_ 41 1099511627775) rfl rfl (any_of HT_.out (by kernel_rfl)) (fun _ _ _ h => h) (Or.inl ⟨by rfl, ?_⟩) ?_ ?_
                 rotate_left; (intro w'; go_simp; with_reducible rfl)
                 rotate_left; (go_frame; (try simp only [w_]); rfl)
                 refine pure_ (i := 40) (N := some 156) (v := ?_) (a' := ?_) (bn_ 41 2199023255551) rfl rfl (any_of HT_.out (by kernel_rfl)) (fun _ _ _ h => h) (Or.inl ⟨by rfl, ?_⟩) ?_ ?_
                 rotate_left; (intro w'; go_simp; with_reducible rfl)
                 rotate_left; (go_frame; (try simp only [w_]); rfl)
                 refine done_ (done_of HT_.out (by kernel_rfl)) ?_
                 try go_wp2
                 go_meet
                 case rel => exact ⟨_, (false), (by first | rfl | (simp only [bytesLe_not]; done) | (simp; done) | (simp [*]; done)), H', ⟨by have := HJ2.out; have := HJ44.out; have := HJ125.out; have := HK4.out; first | omega | exact Nat.le_refl _⟩, ⟨by (with_reducible repeat first | apply blk_drewN | apply blk_drew | apply blk_alloc); exact BK106.out⟩, ⟨by (with_reducible repeat first | apply blk_drewN | apply blk_drew | apply blk_alloc); exact BK107.out⟩, ⟨by (with_reducible repeat first | apply blk_drewN | apply blk_drew | apply blk_alloc); exact BK108.out⟩, ⟨by repeat (first | (with_reducible first | exact HB.out | apply below_alloc | apply pw_below_drewN | apply below_drew1 | refine below_set ?_ GE106.out | refine below_set ?_ GE107.out | refine below_set ?_ GE108.out) | exact HB.out)⟩⟩
              ·
               replace c146 := Bool.eq_false_iff.mpr c146
               subst c146
               have H1 : (spec_right.j6 k4 a1 x7_4 true a0_0 a0_1 a0_2 a0_3 l0_4 l0_5) = some r := by rw [if_neg (show ¬ (false = true) by decide)] at H; exact H
               clear H
               have H := H1
               clear H1
               as_aux_lemma =>
                have H' := Aside0.mk H
                clear H
                try go_wp2
                have n0_ := Aside0.mk (blk_drew BK106.out)
                have n1_ := Aside0.mk (blk_drew BK107.out)
                have n2_ := Aside0.mk (blk_drew BK108.out)
                have n3_ := Aside0.mk (below_drew1 HB.out)
                clear BK106
                clear BK107
                clear BK108
                clear HB
                have BK106 := n0_
                have BK107 := n1_
                have BK108 := n2_
                have HB := n3_
                clear n0_ n1_ n2_ n3_
                have p110 : 0 ≤ (x7_4 : Int) := of_decide_eq_true (by first | (with_reducible assumption) | assumption)
                have q110 : x7_4 < (l0_5.length : Int) := of_decide_eq_true (by first | (with_reducible assumption) | assumption)
                obtain ⟨ad110, A110_4, c110_4, A110_5, c110_5, e110, hx110_0, hx110_1, hx110_2, hx110_3, hx110_4, hx110_5, hl110_4, hi110_4, hl110_5, hi110_5⟩ := at_T31 HR0_5.out x7_4 p110 q110
                have hw110_5 := hx110_5
                have hw110_4 := hx110_4
                have hw110_3 := hx110_3
                have hw110_2 := hx110_2
                have hw110_1 := hx110_1
                have hw110_0 := hx110_0
                cases e110
                replace hx110_0 := (HB.out.cell (World.block_lt_of_cell? w _ hx110_0)).trans hx110_0
                replace hx110_1 := (HB.out.cell (World.block_lt_of_cell? w _ hx110_1)).trans hx110_1
                replace hx110_2 := (HB.out.cell (World.block_lt_of_cell? w _ hx110_2)).trans hx110_2
                replace hx110_3 := (HB.out.cell (World.block_lt_of_cell? w _ hx110_3)).trans hx110_3
                replace hx110_4 := (HB.out.cell (World.block_lt_of_cell? w _ hx110_4)).trans hx110_4
                replace hx110_5 := (HB.out.cell (World.block_lt_of_cell? w _ hx110_5)).trans hx110_5
                have HR110_4 := Aside0.mk hi110_4
                have HC110_4 := Aside0.mk hl110_4
                clear hi110_4 hl110_4
                have HR110_5 := Aside0.mk hi110_5
                have HC110_5 := Aside0.mk hl110_5
                clear hi110_5 hl110_5
                replace p110 := eq_true p110
                replace q110 := eq_true q110
                refine start_ (n := 41) (S := fun w' => w'.cell? ⟨gb106, 0, none⟩ = some (.int .i64 a0_0) ∧ w'.cell? ⟨gb106, 1, none⟩ = some (.int .i64 a0_1) ∧ w'.cell? ⟨gb106, 2, none⟩ = some (.float .f64 a0_2) ∧ w'.cell? ⟨gb106, 3, none⟩ = some (.string a0_3) ∧ w'.cell? ⟨gb106, 4, none⟩ = some (.slice A0_4 l0_4.length c0_4) ∧ w'.cell? ⟨gb106, 5, none⟩ = some (.slice (some ad110) l0_5.length c0_5) ∧ w'.cell? (ad110.add ((x7_4).toNat * 6)) = some (.int .i64 ((rd_T31 l0_5 x7_4).f0)) ∧ w'.cell? ⟨(ad110.add ((x7_4).toNat * 6)).block, (ad110.add ((x7_4).toNat * 6)).off + 1, none⟩ = some (.int .i64 ((rd_T31 l0_5 x7_4).f1)) ∧ w'.cell? ⟨(ad110.add ((x7_4).toNat * 6)).block, (ad110.add ((x7_4).toNat * 6)).off + 2, none⟩ = some (.float .f64 ((rd_T31 l0_5 x7_4).f2)) ∧ w'.cell? ⟨(ad110.add ((x7_4).toNat * 6)).block, (ad110.add ((x7_4).toNat * 6)).off + 3, none⟩ = some (.string ((rd_T31 l0_5 x7_4).f3)) ∧ w'.cell? ⟨(ad110.add ((x7_4).toNat * 6)).block, (ad110.add ((x7_4).toNat * 6)).off + 4, none⟩ = some (.slice A110_4 ((rd_T31 l0_5 x7_4).f4).length c110_4) ∧ w'.cell? ⟨(ad110.add ((x7_4).toNat * 6)).block, (ad110.add ((x7_4).toNat * 6)).off + 5, none⟩ = some (.slice A110_5 ((rd_T31 l0_5 x7_4).f5).length c110_5)) (ds := []) (bn_ 41 0) (by kernel_rfl) rfl rfl ⟨(blk_cell BK106.out 0).trans rfl, (blk_cell BK106.out 1).trans rfl, (blk_cell BK106.out 2).trans rfl, (blk_cell BK106.out 3).trans rfl, (blk_cell BK106.out 4).trans rfl, (blk_cell BK106.out 5).trans rfl, ((HB.out.cell (World.block_lt_of_cell? w _ hw110_0)).trans hw110_0), ((HB.out.cell (World.block_lt_of_cell? w _ hw110_1)).trans hw110_1), ((HB.out.cell (World.block_lt_of_cell? w _ hw110_2)).trans hw110_2), ((HB.out.cell (World.block_lt_of_cell? w _ hw110_3)).trans hw110_3), ((HB.out.cell (World.block_lt_of_cell? w _ hw110_4)).trans hw110_4), ((HB.out.cell (World.block_lt_of_cell? w _ hw110_5)).trans hw110_5)⟩ (fun hHeld => ?_); refine with_tabW spec_right.tab25 spec_right.bits25 (fun HT_ HW_ => ?_)
                generalize wr.drew = w162 at BK106 BK107 BK108 HB HR110_4 HR110_5 hx110_0 hx110_1 hx110_2 hx110_3 hx110_4 hx110_5 hHeld ⊢
                refine pure_ (i := 0) (N := some 116) (v := ?_) (a' := ?_) (bn_ 41 1) rfl rfl (any_of HT_.out (by kernel_rfl)) (fun _ _ _ h => h) (Or.inl ⟨by rfl, ?_⟩) ?_ ?_
                rotate_left; (intro w'; go_simp; with_reducible rfl)
                rotate_left; (go_frame; (try simp only [w_]); rfl)
                refine pure_ (i := 2) (N := some 118) (v := ?_) (a' := ?_) (bn_ 41 5) rfl rfl (any_of HT_.out (by kernel_rfl)) (fun _ _ _ h => h) (Or.inl ⟨by rfl, ?_⟩) ?_ ?_
                rotate_left; (intro w'; go_simp; with_reducible rfl)
                rotate_left; (go_frame; (try simp only [w_]); rfl)
                refine pure_ (i := 5) (N := some 121) (v := ?_) (a' := ?_) (bn_ 41 37) rfl rfl (any_of HT_.out (by kernel_rfl)) (fun _ _ _ h => h) (Or.inl ⟨by rfl, ?_⟩) ?_ ?_
                rotate_left; (intro w'; go_simp; with_reducible rfl)
                rotate_left; (go_frame; (try simp only [w_]); rfl)
                refine pure_ (i := 6) (N := some 122) (v := ?_) (a' := ?_) (bn_ 41 101) rfl rfl (any_of HT_.out (by kernel_rfl)) (fun _ _ _ h => h) (Or.inl ⟨by rfl, ?_⟩) ?_ ?_
                rotate_left; (intro w'; go_simp; with_reducible rfl)
                rotate_left; (go_frame; (try simp only [w_]); rfl)
                refine take_ (i := 1) (N := some 117) (v := ?_) (a' := ?_) (bn_ 41 103) rfl rfl (take_ofW HT_.out HW_.out (by kernel_rfl)) (fun _ _ _ h => h) (Or.inl ⟨by rfl, ?_⟩) hHeld ?_ ?_
                rotate_left
                ·
                 rintro w' ⟨s0, s1, s2, s3, s4, s5, s6, s7, s8, s9, s10, s11⟩
                 go_simp
                 with_reducible rfl
                rotate_left; (go_frame; (try simp only [w_]); rfl)
                refine pure_ (i := 3) (N := some 119) (v := ?_) (a' := ?_) (bn_ 41 111) rfl rfl (any_of HT_.out (by kernel_rfl)) (fun _ _ _ h => h) (Or.inl ⟨by rfl, ?_⟩) ?_ ?_
                rotate_left; (intro w'; go_simp; with_reducible rfl)
                rotate_left; (go_frame; (try simp only [w_]); rfl)
                refine take_ (i := 4) (N := some 120) (v := ?_) (a' := ?_) (bn_ 41 127) rfl rfl (take_ofW HT_.out HW_.out (by kernel_rfl)) (fun _ _ _ h => h) (Or.inl ⟨by rfl, ?_⟩) hHeld ?_ ?_
                rotate_left
                ·
                 rintro w' ⟨s0, s1, s2, s3, s4, s5, s6, s7, s8, s9, s10, s11⟩
                 go_simp
                 with_reducible rfl
                rotate_left; (go_frame; (try simp only [w_]); rfl)
                refine one_ (i := 7) (N := some 123) (bn_ 41 255) rfl rfl (one_of HT_.out (by kernel_rfl)) (by decide) (fun K hK => ?_)
                refine goes_ Try.func17 (by kernel_rfl) rfl #[.agg #[.int .i64 ((rd_T31 l0_5 x7_4).f0), .int .i64 ((rd_T31 l0_5 x7_4).f1), .float .f64 ((rd_T31 l0_5 x7_4).f2), .string ((rd_T31 l0_5 x7_4).f3), .slice A110_4 ((rd_T31 l0_5 x7_4).f4).length c110_4, .slice A110_5 ((rd_T31 l0_5 x7_4).f5).length c110_5], .int .i64 (wrap64 (a1 - 1))] (by rfl) rfl rfl (by (try simp only [List.map_toArray, List.map_cons, List.map_nil]); first | done | rfl | (simp only [List.length_drop, List.length_take]; rfl)) ?_
                with_reducible refine (ih k4 (by have := HJ2.out; have := HJ44.out; have := HJ125.out; have := HK4.out; omega) ((rd_T31 l0_5 x7_4).f0) ((rd_T31 l0_5 x7_4).f1) ((rd_T31 l0_5 x7_4).f2) ((rd_T31 l0_5 x7_4).f3) _ _ ((rd_T31 l0_5 x7_4).f4) _ _ ((rd_T31 l0_5 x7_4).f5) (wrap64 (a1 - 1)) false _ ?side1 ?side2 ?side3 ?side4 A145.out).mono ?_
                (case side1 => repeat (first | exact (Kd.C_below HR110_4.out HB.out) | (with_reducible refine Kd.C_alloc ?_ _) | (with_reducible refine Kd.C_drewN ?_ _) | (with_reducible refine Kd.C_drew ?_)))
                (case side2 => exact HC110_4.out)
                (case side3 => repeat (first | exact (Kd.C_below HR110_5.out HB.out) | (with_reducible refine Kd.C_alloc ?_ _) | (with_reducible refine Kd.C_drewN ?_ _) | (with_reducible refine Kd.C_drew ?_)))
                (case side4 => exact HC110_5.out)
                rintro e w163 ⟨rfl, hb⟩
                refine ⟨_, rfl, ?_⟩
                have n0_ := Aside0.mk (blk_below (g := gb106) (o := .cells #[.int .i64 a0_0, .int .i64 a0_1, .float .f64 a0_2, .string a0_3, .slice A0_4 l0_4.length c0_4, .slice (some ad110) l0_5.length c0_5] 31 (0, 0)) (by (with_reducible repeat first | apply blk_drewN | apply blk_drew | apply blk_alloc); exact BK106.out) hb)
                have n1_ := Aside0.mk (blk_below (g := gb107) (o := .cells #[.int .i64 a0_0, .int .i64 a0_1, .float .f64 a0_2, .string a0_3, .slice none 0 0, .slice none 0 0] 31 (0, 0)) (by (with_reducible repeat first | apply blk_drewN | apply blk_drew | apply blk_alloc); exact BK107.out) hb)
                have n2_ := Aside0.mk (blk_below (g := gb108) (o := .cells #[.int .i64 a0_0, .int .i64 x109001_2, .float .f64 x109002_2, .string x109003_2, .slice none 0 0, .slice none 0 0] 31 (0, 0)) (by (with_reducible repeat first | apply blk_drewN | apply blk_drew | apply blk_alloc); exact BK108.out) hb)
                have n3_ := Aside0.mk (below_step (by repeat (first | (with_reducible first | exact HB.out | apply below_alloc | apply pw_below_drewN | apply below_drew1 | refine below_set ?_ GE106.out | refine below_set ?_ GE107.out | refine below_set ?_ GE108.out) | exact HB.out)) hb)
                clear BK106
                clear BK107
                clear BK108
                clear HB
                have BK106 := n0_
                have BK107 := n1_
                have BK108 := n2_
                have HB := n3_
                clear n0_ n1_ n2_ n3_
                (try clear hb)
                (try clear hb2)
                (try clear hk)
                (try clear hi)
                refine hK.out _ _ ⟨(blk_cell BK106.out 0).trans rfl, (blk_cell BK106.out 1).trans rfl, (blk_cell BK106.out 2).trans rfl, (blk_cell BK106.out 3).trans rfl, (blk_cell BK106.out 4).trans rfl, (blk_cell BK106.out 5).trans rfl, ((HB.out.cell (World.block_lt_of_cell? w _ hw110_0)).trans hw110_0), ((HB.out.cell (World.block_lt_of_cell? w _ hw110_1)).trans hw110_1), ((HB.out.cell (World.block_lt_of_cell? w _ hw110_2)).trans hw110_2), ((HB.out.cell (World.block_lt_of_cell? w _ hw110_3)).trans hw110_3), ((HB.out.cell (World.block_lt_of_cell? w _ hw110_4)).trans hw110_4), ((HB.out.cell (World.block_lt_of_cell? w _ hw110_5)).trans hw110_5)⟩ (fun hHeld => ?_)
                clear hK K
                refine norm_ (a' := ?_) ?_ ?_
                rotate_left
                ·
                 show Act.put _ (some 123) _ = _
                 go_frame; try simp only [i64_w, i32_w]
                 rfl
                refine pure_ (i := 8) (N := some 124) (v := ?_) (a' := ?_) (bn_ 41 511) rfl rfl (any_of HT_.out (by kernel_rfl)) (fun _ _ _ h => h) (Or.inl ⟨by rfl, ?_⟩) ?_ ?_
                rotate_left; (intro w'; go_simp; with_reducible rfl)
                rotate_left; (go_frame; (try simp only [w_]); rfl)
                refine pure_ (i := 9) (N := some 125) (v := ?_) (a' := ?_) (bn_ 41 1023) rfl rfl (any_of HT_.out (by kernel_rfl)) (fun _ _ _ h => h) (Or.inl ⟨by rfl, ?_⟩) ?_ ?_
                rotate_left; (intro w'; go_simp; with_reducible rfl)
                rotate_left; (go_frame; (try simp only [w_]); rfl)
                refine pure_ (i := 10) (N := some 126) (v := undef) (a' := ?_) (bn_ 41 2047) rfl rfl (any_of HT_.out (by kernel_rfl)) (fun _ _ _ h => h) (Or.inr ⟨by rfl, rfl⟩) ?_ ?_
                rotate_left; (go_frame; (try simp only [w_]); rfl)
                refine pure_ (i := 11) (N := some 127) (v := undef) (a' := ?_) (bn_ 41 4095) rfl rfl (any_of HT_.out (by kernel_rfl)) (fun _ _ _ h => h) (Or.inr ⟨by rfl, rfl⟩) ?_ ?_
                rotate_left; (go_frame; (try simp only [w_]); rfl)
                refine pure_ (i := 12) (N := some 128) (v := undef) (a' := ?_) (bn_ 41 8191) rfl rfl (any_of HT_.out (by kernel_rfl)) (fun _ _ _ h => h) (Or.inr ⟨by rfl, rfl⟩) ?_ ?_
                rotate_left; (go_frame; (try simp only [w_]); rfl)
                refine pure_ (i := 13) (N := some 129) (v := undef) (a' := ?_) (bn_ 41 16383) rfl rfl (any_of HT_.out (by kernel_rfl)) (fun _ _ _ h => h) (Or.inr ⟨by rfl, rfl⟩) ?_ ?_
                rotate_left; (go_frame; (try simp only [w_]); rfl)
                refine pure_ (i := 14) (N := some 130) (v := undef) (a' := ?_) (bn_ 41 32767) rfl rfl (any_of HT_.out (by kernel_rfl)) (fun _ _ _ h => h) (Or.inr ⟨by rfl, rfl⟩) ?_ ?_
                rotate_left; (go_frame; (try simp only [w_]); rfl)
                refine pure_ (i := 15) (N := some 131) (v := undef) (a' := ?_) (bn_ 41 65535) rfl rfl (any_of HT_.out (by kernel_rfl)) (fun _ _ _ h => h) (Or.inr ⟨by rfl, rfl⟩) ?_ ?_
                rotate_left; (go_frame; (try simp only [w_]); rfl)
                refine pure_ (i := 16) (N := some 132) (v := undef) (a' := ?_) (bn_ 41 131071) rfl rfl (any_of HT_.out (by kernel_rfl)) (fun _ _ _ h => h) (Or.inr ⟨by rfl, rfl⟩) ?_ ?_
                rotate_left; (go_frame; (try simp only [w_]); rfl)
                refine pure_ (i := 17) (N := some 133) (v := undef) (a' := ?_) (bn_ 41 262143) rfl rfl (any_of HT_.out (by kernel_rfl)) (fun _ _ _ h => h) (Or.inr ⟨by rfl, rfl⟩) ?_ ?_
                rotate_left; (go_frame; (try simp only [w_]); rfl)
                refine pure_ (i := 18) (N := some 134) (v := undef) (a' := ?_) (bn_ 41 524287) rfl rfl (any_of HT_.out (by kernel_rfl)) (fun _ _ _ h => h) (Or.inr ⟨by rfl, rfl⟩) ?_ ?_
                rotate_left; (go_frame; (try simp only [w_]); rfl)
                refine pure_ (i := 19) (N := some 135) (v := undef) (a' := ?_) (bn_ 41 1048575) rfl rfl (any_of HT_.out (by kernel_rfl)) (fun _ _ _ h => h) (Or.inr ⟨by rfl, rfl⟩) ?_ ?_
                rotate_left; (go_frame; (try simp only [w_]); rfl)
                refine pure_ (i := 20) (N := some 136) (v := undef) (a' := ?_) (bn_ 41 2097151) rfl rfl (any_of HT_.out (by kernel_rfl)) (fun _ _ _ h => h) (Or.inr ⟨by rfl, rfl⟩) ?_ ?_
                rotate_left; (go_frame; (try simp only [w_]); rfl)
                refine pure_ (i := 21) (N := some 137) (v := undef) (a' := ?_) (bn_ 41 4194303) rfl rfl (any_of HT_.out (by kernel_rfl)) (fun _ _ _ h => h) (Or.inr ⟨by rfl, rfl⟩) ?_ ?_
                rotate_left; (go_frame; (try simp only [w_]); rfl)
                refine pure_ (i := 22) (N := some 138) (v := undef) (a' := ?_) (bn_ 41 8388607) rfl rfl (any_of HT_.out (by kernel_rfl)) (fun _ _ _ h => h) (Or.inr ⟨by rfl, rfl⟩) ?_ ?_
                rotate_left; (go_frame; (try simp only [w_]); rfl)
                refine pure_ (i := 23) (N := some 139) (v := undef) (a' := ?_) (bn_ 41 16777215) rfl rfl (any_of HT_.out (by kernel_rfl)) (fun _ _ _ h => h) (Or.inr ⟨by rfl, rfl⟩) ?_ ?_
                rotate_left; (go_frame; (try simp only [w_]); rfl)
                refine pure_ (i := 24) (N := some 140) (v := undef) (a' := ?_) (bn_ 41 33554431) rfl rfl (any_of HT_.out (by kernel_rfl)) (fun _ _ _ h => h) (Or.inr ⟨by rfl, rfl⟩) ?_ ?_
                rotate_left; (go_frame; (try simp only [w_]); rfl)
                refine pure_ (i := 25) (N := some 141) (v := undef) (a' := ?_) (bn_ 41 67108863) rfl rfl (any_of HT_.out (by kernel_rfl)) (fun _ _ _ h => h) (Or.inr ⟨by rfl, rfl⟩) ?_ ?_
                rotate_left; (go_frame; (try simp only [w_]); rfl)
                refine pure_ (i := 26) (N := some 142) (v := undef) (a' := ?_) (bn_ 41 134217727) rfl rfl (any_of HT_.out (by kernel_rfl)) (fun _ _ _ h => h) (Or.inr ⟨by rfl, rfl⟩) ?_ ?_
                rotate_left; (go_frame; (try simp only [w_]); rfl)
                refine pure_ (i := 27) (N := some 143) (v := undef) (a' := ?_) (bn_ 41 268435455) rfl rfl (any_of HT_.out (by kernel_rfl)) (fun _ _ _ h => h) (Or.inr ⟨by rfl, rfl⟩) ?_ ?_
                rotate_left; (go_frame; (try simp only [w_]); rfl)
                refine pure_ (i := 28) (N := some 144) (v := undef) (a' := ?_) (bn_ 41 536870911) rfl rfl (any_of HT_.out (by kernel_rfl)) (fun _ _ _ h => h) (Or.inr ⟨by rfl, rfl⟩) ?_ ?_
                rotate_left; (go_frame; (try simp only [w_]); rfl)
                refine pure_ (i := 29) (N := some 145) (v := undef) (a' := ?_) (bn_ 41 1073741823) rfl rfl (any_of HT_.out (by kernel_rfl)) (fun _ _ _ h => h) (Or.inr ⟨by rfl, rfl⟩) ?_ ?_
                rotate_left; (go_frame; (try simp only [w_]); rfl)
                refine pure_ (i := 30) (N := some 146) (v := undef) (a' := ?_) (bn_ 41 2147483647) rfl rfl (any_of HT_.out (by kernel_rfl)) (fun _ _ _ h => h) (Or.inr ⟨by rfl, rfl⟩) ?_ ?_
                rotate_left; (go_frame; (try simp only [w_]); rfl)
                refine pure_ (i := 31) (N := some 147) (v := undef) (a' := ?_) (bn_ 41 4294967295) rfl rfl (any_of HT_.out (by kernel_rfl)) (fun _ _ _ h => h) (Or.inr ⟨by rfl, rfl⟩) ?_ ?_
                rotate_left; (go_frame; (try simp only [w_]); rfl)
                refine pure_ (i := 32) (N := some 148) (v := undef) (a' := ?_) (bn_ 41 8589934591) rfl rfl (any_of HT_.out (by kernel_rfl)) (fun _ _ _ h => h) (Or.inr ⟨by rfl, rfl⟩) ?_ ?_
                rotate_left; (go_frame; (try simp only [w_]); rfl)
                refine pure_ (i := 33) (N := some 149) (v := undef) (a' := ?_) (bn_ 41 17179869183) rfl rfl (any_of HT_.out (by kernel_rfl)) (fun _ _ _ h => h) (Or.inr ⟨by rfl, rfl⟩) ?_ ?_
                rotate_left; (go_frame; (try simp only [w_]); rfl)
                refine pure_ (i := 34) (N := some 150) (v := undef) (a' := ?_) (bn_ 41 34359738367) rfl rfl (any_of HT_.out (by kernel_rfl)) (fun _ _ _ h => h) (Or.inr ⟨by rfl, rfl⟩) ?_ ?_
                rotate_left; (go_frame; (try simp only [w_]); rfl)
                refine pure_ (i := 35) (N := some 151) (v := undef) (a' := ?_) (bn_ 41 68719476735) rfl rfl (any_of HT_.out (by kernel_rfl)) (fun _ _ _ h => h) (Or.inr ⟨by rfl, rfl⟩) ?_ ?_
                rotate_left; (go_frame; (try simp only [w_]); rfl)
                refine pure_ (i := 36) (N := some 152) (v := undef) (a' := ?_) (bn_ 41 137438953471) rfl rfl (any_of HT_.out (by kernel_rfl)) (fun _ _ _ h => h) (Or.inr ⟨by rfl, rfl⟩) ?_ ?_
                rotate_left; (go_frame; (try simp only [w_]); rfl)
                refine pure_ (i := 37) (N := some 153) (v := undef) (a' := ?_) (bn_ 41 274877906943) rfl rfl (any_of HT_.out (by kernel_rfl)) (fun _ _ _ h => h) (Or.inr ⟨by rfl, rfl⟩) ?_ ?_
                rotate_left; (go_frame; (try simp only [w_]); rfl)
                refine pure_ (i := 38) (N := some 154) (v := undef) (a' := ?_) (bn_ 41 549755813887) rfl rfl (any_of HT_.out (by kernel_rfl)) (fun _ _ _ h => h) (Or.inr ⟨by rfl, rfl⟩) ?_ ?_
                rotate_left; (go_frame; (try simp only [w_]); rfl)
                refine pure_ (i := 39) (N := some 155) (v := undef) (a' := ?_) (bn_ 41 1099511627775) rfl rfl (any_of HT_.out (by kernel_rfl)) (fun _ _ _ h => h) (Or.inr ⟨by rfl, rfl⟩) ?_ ?_
                rotate_left; (go_frame; (try simp only [w_]); rfl)
                refine pure_ (i := 40) (N := some 156) (v := ?_) (a' := ?_) (bn_ 41 2199023255551) rfl rfl (any_of HT_.out (by kernel_rfl)) (fun _ _ _ h => h) (Or.inl ⟨by rfl, ?_⟩) ?_ ?_
                rotate_left; (intro w'; go_simp; with_reducible rfl)
                rotate_left; (go_frame; (try simp only [w_]); rfl)
                refine done_ (done_of HT_.out (by kernel_rfl)) ?_
                try go_wp2
                go_meet
                case rel => exact ⟨_, (true), (by first | rfl | (simp only [bytesLe_not]; done) | (simp; done) | (simp [*]; done)), H', ⟨by have := HJ2.out; have := HJ44.out; have := HJ125.out; have := HK4.out; first | omega | exact Nat.le_refl _⟩, ⟨by (with_reducible repeat first | apply blk_drewN | apply blk_drew | apply blk_alloc); exact BK106.out⟩, ⟨by (with_reducible repeat first | apply blk_drewN | apply blk_drew | apply blk_alloc); exact BK107.out⟩, ⟨by (with_reducible repeat first | apply blk_drewN | apply blk_drew | apply blk_alloc); exact BK108.out⟩, ⟨by repeat (first | (with_reducible first | exact HB.out | apply below_alloc | apply pw_below_drewN | apply below_drew1 | refine below_set ?_ GE106.out | refine below_set ?_ GE107.out | refine below_set ?_ GE108.out) | exact HB.out)⟩⟩
             ·
              rw [if_neg c144] at H
              exact absurd H (by simp)
            case rest =>
             clear HC140
             try clear c1
             try clear c11
             try clear c110
             try clear c14
             try clear c144
             try clear c146
             try clear c147
             try clear c147b0
             try clear c147b1
             try clear c148
             try clear c17
             try clear hx1
             try clear hx11
             try clear hx110
             try clear hx110_0
             try clear hx110_1
             try clear hx110_2
             try clear hx110_3
             try clear hx110_4
             try clear hx110_5
             try clear p1
             try clear p11
             try clear p110
             try clear p110
             try clear p2
             try clear p6
             try clear p64
             try clear q1
             try clear q11
             try clear q110
             try clear q110
             obtain ⟨kq, x156_139, rfl, HA, HJ139, BK106, BK107, BK108, HB⟩ := hcut
             cases kq with
             | zero => exact absurd HA.out (by simp [spec_right.j6])
             | succ kj139 =>
              have H := HA.out
              clear HA
              simp only [spec_right.j6] at H
              by_cases c164 : x156_139 = true
              ·
               subst c164
               have H1 : (some false) = some r := by rw [if_pos rfl] at H; exact H
               clear H
               have H := H1
               clear H1
               as_aux_lemma =>
                obtain rfl := Option.some.inj H
                go_wp2
                go_ret
                exact ⟨by first | rfl | (simp [errW_none, errW_some] <;> rfl) | (simp [*, errW_none, errW_some] <;> rfl), by repeat (first | (with_reducible first | exact HB.out | apply below_alloc | apply pw_below_drewN | apply below_drew1 | refine below_set ?_ GE106.out | refine below_set ?_ GE107.out | refine below_set ?_ GE108.out) | exact HB.out)⟩
              ·
               replace c164 := Bool.eq_false_iff.mpr c164
               subst c164
               have H1 : (spec_right.l0 kj139 a1 (wrap64 (x7_4 + 1)) a0_0 a0_1 a0_2 a0_3 l0_4 l0_5) = some r := by rw [if_neg (show ¬ (false = true) by decide)] at H; exact H
               clear H
               have H := H1
               clear H1
               as_aux_lemma =>
                have H' := Aside0.mk H
                clear H
                go_wp2
                go_roundg kj139
                case measure => have := HJ2.out; have := HJ44.out; have := HJ125.out; have := HK4.out; have := HJ139.out; omega
                case rel => exact ⟨(wrap64 (x7_4 + 1)), (by first | rfl | (simp only [bytesLe_not]; done) | (simp; done) | (simp [*]; done)), H', ⟨by have := HJ2.out; have := HJ44.out; have := HJ125.out; have := HK4.out; have := HJ139.out; omega⟩, ⟨by (with_reducible repeat first | apply blk_drewN | apply blk_drew | apply blk_alloc); exact BK106.out⟩, ⟨by (with_reducible repeat first | apply blk_drewN | apply blk_drew | apply blk_alloc); exact BK107.out⟩, ⟨by (with_reducible repeat first | apply blk_drewN | apply blk_drew | apply blk_alloc); exact BK108.out⟩, ⟨by repeat (first | (with_reducible first | exact HB.out | apply below_alloc | apply pw_below_drewN | apply below_drew1 | refine below_set ?_ GE106.out | refine below_set ?_ GE107.out | refine below_set ?_ GE108.out) | exact HB.out)⟩⟩
           ·
            rw [if_neg c139] at H
            have c139b0 : decide (x7_4 < (l0_5.length : Int)) = false := decide_eq_false c139
            clear c139
            as_aux_lemma =>
             obtain rfl := Option.some.inj H
             have hnb165 := NB106_107.out
             have hnc165 := NB107_106.out
             have hnb166 := NB106_108.out
             have hnc166 := NB108_106.out
             have hcz167_0 : wr.cell? ⟨gb106, 0, none⟩ = some (.int .i64 a0_0) := (blk_cell BK106.out 0).trans rfl
             have hcz167_1 : wr.cell? ⟨gb106, 1, none⟩ = some (.int .i64 a0_1) := (blk_cell BK106.out 1).trans rfl
             have hcz167_2 : wr.cell? ⟨gb106, 2, none⟩ = some (.float .f64 a0_2) := (blk_cell BK106.out 2).trans rfl
             have hcz167_3 : wr.cell? ⟨gb106, 3, none⟩ = some (.string a0_3) := (blk_cell BK106.out 3).trans rfl
             have hcz167_4 : wr.cell? ⟨gb106, 4, none⟩ = some (.slice A0_4 l0_4.length c0_4) := (blk_cell BK106.out 4).trans rfl
             have hcz167_5 : wr.cell? ⟨gb106, 5, none⟩ = some (.slice A0_5 l0_5.length c0_5) := (blk_cell BK106.out 5).trans rfl
             go_wp2
             go_ret
             exact ⟨by first | rfl | (simp [errW_none, errW_some] <;> rfl) | (simp [*, errW_none, errW_some] <;> rfl), by repeat (first | (with_reducible first | exact HB.out | apply below_alloc | apply pw_below_drewN | apply below_drew1 | refine below_set ?_ GE106.out | refine below_set ?_ GE107.out | refine below_set ?_ GE108.out) | exact HB.out)⟩

end Go.Proofs.Ytffkinonnkbcpaa.P
