/- sprig.Get, sprig.HasKey. -/
import Derived.Test.YtlefdkemgfjieaaE1
set_option linter.unusedVariables false
set_option linter.unusedSimpArgs false
namespace Go.Proofs.Ytlefdkemgfjieaa.P
open Go.RowKit Go.Proofs.YtlefdkemgfjieaaW.PrintWords Go.Proofs.YtlefdkemgfjieaaW.PrintLast Go.Proofs.YtlefdkemgfjieaaW.PrintMore
attribute [local go_sem] run_store_float

theorem get_call {w : World} {b : Nat} {key : ByteArray} {v : Value} (r : Bool) (hlk : (Instr.lookup 68 (.map (some b)) (.string key) true).run Try.prog w = .ok (.tuple #[v, .bool r]) w) :
    Calls Try.prog 73 #[.map (some b), .string key] w fun e w' => e = .returned (bif r then v else .iface 9 (.string ⟨#[]⟩)) ∧ Below w.heap.size w w' := by
  cases r
  · go_enter Try.func73, Try.ntmps73
    go_wp2
    go_ret
    exact ⟨rfl, Below.refl _ _⟩
  · go_enter Try.func73, Try.ntmps73
    go_wp2
    go_ret
    exact ⟨rfl, Below.refl _ _⟩
theorem Get_call {w : World} {b : Nat} {key : ByteArray} {v : Value} (r : Bool) (hlk : (Instr.lookup 68 (.map (some b)) (.string key) true).run Try.prog w = .ok (.tuple #[v, .bool r]) w) :
    Calls Try.prog 50 #[.map (some b), .string key] w fun e w' => e = .returned (bif r then v else .iface 9 (.string ⟨#[]⟩)) ∧ Below w.heap.size w w' := by
  have HI := Lib.hid (get_call r hlk)
  clear hlk
  cases r
  · go_enter Try.func50, Try.ntmps50
    go_wp2_with fail
    refine HI.out.mono ?_
    rintro e w1 ⟨rfl, hb1⟩
    have HB1 := Lib.hid hb1
    clear hb1
    go_wp2
    go_ret
    exact ⟨rfl, HB1.out⟩
  · go_enter Try.func50, Try.ntmps50
    go_wp2_with fail
    refine HI.out.mono ?_
    rintro e w1 ⟨rfl, hb1⟩
    have HB1 := Lib.hid hb1
    clear hb1
    go_wp2
    go_ret
    exact ⟨rfl, HB1.out⟩
theorem hasKey_call {w : World} {b : Nat} {key : ByteArray} {v : Value} (r : Bool) (hlk : (Instr.lookup 68 (.map (some b)) (.string key) true).run Try.prog w = .ok (.tuple #[v, .bool r]) w) :
    Calls Try.prog 74 #[.map (some b), .string key] w fun e w' => e = .returned (.bool r) ∧ Below w.heap.size w w' := by
  cases r
  · go_enter Try.func74, Try.ntmps74
    go_wp2
    go_ret
    exact ⟨rfl, Below.refl _ _⟩
  · go_enter Try.func74, Try.ntmps74
    go_wp2
    go_ret
    exact ⟨rfl, Below.refl _ _⟩
theorem HasKey_call {w : World} {b : Nat} {key : ByteArray} {v : Value} (r : Bool) (hlk : (Instr.lookup 68 (.map (some b)) (.string key) true).run Try.prog w = .ok (.tuple #[v, .bool r]) w) :
    Calls Try.prog 51 #[.map (some b), .string key] w fun e w' => e = .returned (.bool r) ∧ Below w.heap.size w w' := by
  have HI := Lib.hid (hasKey_call r hlk)
  clear hlk
  cases r
  · go_enter Try.func51, Try.ntmps51
    go_wp2_with fail
    refine HI.out.mono ?_
    rintro e w1 ⟨rfl, hb1⟩
    have HB1 := Lib.hid hb1
    clear hb1
    go_wp2
    go_ret
    exact ⟨rfl, HB1.out⟩
  · go_enter Try.func51, Try.ntmps51
    go_wp2_with fail
    refine HI.out.mono ?_
    rintro e w1 ⟨rfl, hb1⟩
    have HB1 := Lib.hid hb1
    clear hb1
    go_wp2
    go_ret
    exact ⟨rfl, HB1.out⟩
/-- goDict of a value that is one. -/
theorem goDict_con (x : S26) (h7 : x.f0 = 7) (A4 : Option Addr) (c4 : Nat) (A5 : Option Addr) (c5 : Nat) (w : World) (hx : fitsN 8 x) (hr : RowsAt x A4 c4 A5 c5 w) :
    Calls Try.prog 49 #[.agg #[.int .i64 7, .int .i64 x.f1, .float .f64 x.f2, .string x.f3, .slice A4 x.f4.length c4, .slice A5 x.f5.length c5]] w (DictPost 7 x.f4 x.f5 w) := by
  obtain ⟨f0, f1, f2, f3, f4, f5⟩ := x
  simp only at h7
  subst h7
  exact goDict_all 7 f1 f2 f3 f4 f5 A4 c4 A5 c5 w hx hr.1 hr.2.1 hr.2.2.1 hr.2.2.2
theorem implHasKey_call (x : S26) (h7 : x.f0 = 7) (key : ByteArray) (hkey : key.size ≤ 300) (ri : Int) (rb : Bool) (hrr : AtOk x.f4 key (ri, rb)) (A4 : Option Addr) (c4 : Nat) (A5 : Option Addr) (c5 : Nat) (w : World) (hx : fitsN 8 x) (hr : RowsAt x A4 c4 A5 c5 w) :
    Calls Try.prog 21 #[aggOf x A4 c4 A5 c5, .string key] w fun e w' => e = .returned (.tuple #[.bool rb, .bool true]) ∧ Below w.heap.size w w' := by
  obtain ⟨W1, hW1⟩ : ∃ W1, W1 = w.alloc (.cells #[.int .i64 7, .int .i64 x.f1, .float .f64 x.f2, .string x.f3, .slice A4 x.f4.length c4, .slice A5 x.f5.length c5] 26) := ⟨_, rfl⟩
  have hB0 : Below w.heap.size w W1 := by rw [hW1]; exact (Below.refl _ _).alloc (Nat.le_refl _) _
  have HB0 := Lib.hid hB0
  have HW1 := Lib.hid hW1
  have HG := Lib.hid (goDict_con x h7 A4 c4 A5 c5 W1 hx (hr.below hB0))
  have HX := Lib.hid (hx.2.2.2.2.2.2.1 h7)
  have HRR := Lib.hid hrr
  unfold aggOf
  rw [h7]
  clear hW1 hB0 hx hr h7 hrr
  go_enter Try.func21, Try.ntmps21
  go_wp2_with fail
  rw [← HW1.out]
  clear HW1
  refine HG.out.mono ?_
  rintro e w1 ⟨u, rfl, hm, hb1⟩
  have HB1 := Lib.hid (HB0.out.trans (hb1.mono HB0.out.size))
  obtain ⟨b, m, vs, rfl, -, hvs, hks, -, ho, -⟩ := hm
  obtain ⟨v, hlk, -⟩ := look_dict ho (by rw [hks, hvs]) HX.out.2 hkey HRR.out
  have HH := Lib.hid (HasKey_call rb hlk)
  clear hb1 HG hvs hks ho hlk
  go_wp2_with fail
  refine HH.out.mono ?_
  rintro e w2 ⟨rfl, hb2⟩
  have HB2 := Lib.hid (HB1.out.trans (hb2.mono HB1.out.size))
  clear hb2 HH
  go_wp2
  go_ret2
  exact ⟨rfl, HB2.out⟩
end Go.Proofs.Ytlefdkemgfjieaa.P
