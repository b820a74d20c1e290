/- impl.Default and impl.Empty. -/
import Derived.Test.YtlefdkemgfjieaaD1
set_option linter.unusedVariables false
set_option linter.unusedSimpArgs false
namespace Go.Proofs.Ytlefdkemgfjieaa.P
open Go.RowKit Go.Proofs.YtlefdkemgfjieaaW.PrintWords Go.Proofs.YtlefdkemgfjieaaW.PrintLast Go.Proofs.YtlefdkemgfjieaaW.PrintMore
attribute [local go_sem] run_store_float

theorem empty_row (a : Addr) (w : World) : Calls Try.prog 77 #[.iface 77 (.slice (some a) 1 1)] w fun e w' => e = .returned (.bool false) ∧ Below w.heap.size w w' := by
  have ta0 : ∀ (v : Value) (W : World), (Instr.typeAssert (.iface 77 v) 20 77 true).run Try.prog W = .ok (.tuple #[v, .bool true]) W := fun v W => by kernel_rfl
  go_enter Try.func77, Try.ntmps77
  go_wp2
  go_ret
  exact ⟨rfl, Below.refl _ _⟩
set_option maxHeartbeats 3200000 in
set_option maxRecDepth 100000 in
theorem dfault_call {n : Nat} {x : S26} {v : Value} {ok : Nat → Prop} {w : World} (u : Value) (hx : fitsN n x) (hv : GoN n ok w x v) (g : Nat) (hg : g < w.heap.size) (hc : w.cell? ⟨g, 0, none⟩ = some v) (b : Bool) (hb : emptyB x = b) :
    Calls Try.prog 76 #[u, .slice (some ⟨g, 0, none⟩) 1 1] w fun e w' => e = .returned (bif b then u else v) ∧ Below w.heap.size w w' := by
  have HBB := Lib.hid hb
  clear hb
  have HX := Lib.hid hx
  have HV := Lib.hid hv
  have HC := Lib.hid hc
  have HG := Lib.hid hg
  clear hx hv hg
  cases b
  · go_enter Try.func76, Try.ntmps76
    go_wp2_with fail
    refine (empty_row _ w).mono ?_
    rintro e w1 ⟨rfl, hb1⟩
    have HB1 := Lib.hid hb1
    have hc1 : w1.cell? ⟨g, 0, none⟩ = some v := (hb1.cell HG.out).trans HC.out
    have HC1 := Lib.hid hc1
    have HE := Lib.hid (empty_call HX.out (HV.out.below hb1))
    rw [HBB.out] at HE
    clear hb1 hc HC HV
    go_wp2_with fail
    refine HE.out.mono ?_
    rintro e w2 ⟨rfl, hb2⟩
    have HB2 := Lib.hid (HB1.out.trans (hb2.mono HB1.out.size))
    have hc2 : w2.cell? ⟨g, 0, none⟩ = some v := (hb2.cell (Nat.lt_of_lt_of_le HG.out HB1.out.size)).trans HC1.out
    clear hb2 hc1 HC1 HE HX
    go_wp2
    go_ret
    exact ⟨rfl, HB2.out⟩
  · go_enter Try.func76, Try.ntmps76
    go_wp2_with fail
    refine (empty_row _ w).mono ?_
    rintro e w1 ⟨rfl, hb1⟩
    have HB1 := Lib.hid hb1
    have hc1 : w1.cell? ⟨g, 0, none⟩ = some v := (hb1.cell HG.out).trans HC.out
    have HC1 := Lib.hid hc1
    have HE := Lib.hid (empty_call HX.out (HV.out.below hb1))
    rw [HBB.out] at HE
    clear hb1 hc HC HV
    go_wp2_with fail
    refine HE.out.mono ?_
    rintro e w2 ⟨rfl, hb2⟩
    have HB2 := Lib.hid (HB1.out.trans (hb2.mono HB1.out.size))
    have hc2 : w2.cell? ⟨g, 0, none⟩ = some v := (hb2.cell (Nat.lt_of_lt_of_le HG.out HB1.out.size)).trans HC1.out
    clear hb2 hc1 HC1 HE HX
    go_wp2
    go_ret
    exact ⟨rfl, HB2.out⟩
theorem Default_call {n : Nat} {x : S26} {v : Value} {ok : Nat → Prop} {w : World} (u : Value) (hx : fitsN n x) (hv : GoN n ok w x v) (g : Nat) (hg : g < w.heap.size) (hc : w.cell? ⟨g, 0, none⟩ = some v) (b : Bool) (hb : emptyB x = b) :
    Calls Try.prog 55 #[u, .slice (some ⟨g, 0, none⟩) 1 1] w fun e w' => e = .returned (bif b then u else v) ∧ Below w.heap.size w w' := by
  have HD := Lib.hid (dfault_call u hx hv g hg hc b hb)
  clear hx hv hg hc hb
  cases b
  · go_enter Try.func55, Try.ntmps55
    go_wp2_with fail
    refine HD.out.mono ?_
    rintro e w1 ⟨rfl, hb1⟩
    have HB1 := Lib.hid hb1
    clear hb1
    go_wp2
    go_ret
    exact ⟨rfl, HB1.out⟩
  · go_enter Try.func55, Try.ntmps55
    go_wp2_with fail
    refine HD.out.mono ?_
    rintro e w1 ⟨rfl, hb1⟩
    have HB1 := Lib.hid hb1
    clear hb1
    go_wp2
    go_ret
    exact ⟨rfl, HB1.out⟩
theorem Empty_call {n : Nat} {x : S26} {v : Value} {ok : Nat → Prop} {w : World} (hx : fitsN n x) (hv : GoN n ok w x v) : Calls Try.prog 56 #[v] w fun e w' => e = .returned (.bool (emptyB x)) ∧ Below w.heap.size w w' := by
  have HE := Lib.hid (empty_call hx hv)
  clear hx hv
  generalize emptyB x = b at *
  go_enter Try.func56, Try.ntmps56
  go_wp2_with fail
  refine HE.out.mono ?_
  rintro e w1 ⟨rfl, hb1⟩
  have HB1 := Lib.hid hb1
  clear hb1
  go_wp2
  go_ret
  exact ⟨rfl, HB1.out⟩
/-- impl.Empty. -/
theorem implEmpty_call {n : Nat} (x : S26) (A4 : Option Addr) (c4 : Nat) (A5 : Option Addr) (c5 : Nat) (w : World) (hx : fitsN n x) (hr : RowsAt x A4 c4 A5 c5 w) (b : Bool) (hb : emptyB x = b) :
    Calls Try.prog 27 #[aggOf x A4 c4 A5 c5] w fun e w' => e = .returned (.tuple #[.bool b, .bool true]) ∧ Below w.heap.size w w' := by
  have HX := Lib.hid hx
  obtain ⟨W1, hW1⟩ : ∃ W1, W1 = w.alloc (.cells #[.int .i64 x.f0, .int .i64 x.f1, .float .f64 x.f2, .string x.f3, .slice A4 x.f4.length c4, .slice A5 x.f5.length c5] 26) := ⟨_, rfl⟩
  have hB0 : Below w.heap.size w W1 := by rw [hW1]; exact (Below.refl _ _).alloc (Nat.le_refl _) _
  have hr1 := hr.below hB0
  have HB0 := Lib.hid hB0
  have HW1 := Lib.hid hW1
  have HG := Lib.hid (go_all n x A4 c4 A5 c5 W1 hx hr1.1 hr1.2.1 hr1.2.2.1 hr1.2.2.2)
  clear hW1 hB0 hr1
  have HBB := Lib.hid hb
  clear hx hr hb
  unfold aggOf
  go_enter Try.func27, Try.ntmps27
  go_wp2_with fail
  rw [← HW1.out]
  clear HW1
  refine HG.out.mono ?_
  rintro e w1 ⟨u, rfl, gu, hb1⟩
  have HB1 := Lib.hid (HB0.out.trans (hb1.mono HB0.out.size))
  have HE := Lib.hid (Empty_call HX.out gu)
  rw [HBB.out] at HE
  clear gu hb1 HG
  go_wp2_with fail
  refine HE.out.mono ?_
  rintro e w2 ⟨rfl, hb2⟩
  have HB2 := Lib.hid (HB1.out.trans (hb2.mono HB1.out.size))
  clear hb2 HE
  go_wp2
  go_ret2
  exact ⟨rfl, HB2.out⟩
end Go.Proofs.Ytlefdkemgfjieaa.P
