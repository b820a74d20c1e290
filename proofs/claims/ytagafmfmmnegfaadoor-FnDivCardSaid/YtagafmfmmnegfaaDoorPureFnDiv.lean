/- Div is the quotient without its fraction, mod what is left; both together are the number: for every two integers, the second one not 0. Nothing is assumed but what every Go int64 fulfils. -/
import Derived.Test.YtagafmfmmnegfaaDoorPx29
namespace Go.Proofs.YtagafmfmmnegfaaDoor.Pure
open Go.RowKit Go.Proofs.YtagafmfmmnegfaaDoor.P Go.Proofs.YtagafmfmmnegfaaDoorW.PrintWords Go.Proofs.YtagafmfmmnegfaaDoorW.PrintLast

theorem wf_range {a : Int} (h : (Lit.int .i64 a).wf = true) : -9223372036854775808 ≤ a ∧ a ≤ 9223372036854775807 := by
  simp [Lit.wf, IntKind.min, IntKind.max, IntKind.signed, IntKind.bits] at h
  omega
theorem back (a b : Int) (h0 : -9223372036854775808 ≤ a) (h1 : a ≤ 9223372036854775807) : wrap64 (wrap64 (wrap64 (Int.tdiv a b) * b) + Int.tmod a b) = a := by
  have h := Int.tdiv_mul_add_tmod a b
  have hw : ∀ x : Int, wrap64 x % 18446744073709551616 = x % 18446744073709551616 := by
    intro x
    unfold wrap64
    omega
  have e1 : (wrap64 (Int.tdiv a b) * b) % 18446744073709551616 = (Int.tdiv a b * b) % 18446744073709551616 := by
    rw [Int.mul_emod, hw, ← Int.mul_emod]
  generalize wrap64 (Int.tdiv a b) * b = x at *
  generalize Int.tdiv a b * b = y at *
  generalize Int.tmod a b = m at *
  unfold wrap64
  omega

theorem FnDiv : laws_FnDiv.Pure := by
  intro a b ha _
  obtain ⟨h0, h1⟩ := wf_range ha
  refine Ev.rounds (g := fun k => laws_FnDiv.f k a b) ?_
  unfold laws_FnDiv.f
  have far : Ev (fun k => laws_FnDiv.j0 k a b true) true := Ev.step (fun k => by rw [laws_FnDiv.j0]) (Ev.pos rfl (Ev.ok _))
  by_cases c0 : b = 0
  · exact Ev.pos c0 far
  refine Ev.neg c0 ?_
  have main : Ev (fun k => laws_FnDiv.j0 k a b false) true := by
    refine Ev.step (fun k => by rw [laws_FnDiv.j0]) (Ev.neg Bool.false_ne_true ?_)
    have d : impl_Div.f a b = some (wrap64 (Int.tdiv a b), true) := by unfold impl_Div.f sprig_Div.f; rw [if_neg c0]; rfl
    have m : impl_Mod.f a b = some (Int.tmod a b, true) := by unfold impl_Mod.f sprig_Mod.f; rw [if_neg c0]; rfl
    rw [d, m]
    refine Ev.bind (Ev.ok _) (Ev.bind (Ev.ok _) (Ev.pos rfl (Ev.pos rfl (Ev.neg c0 (Ev.pos rfl (Ev.pos rfl (Ev.eq ?_ (Ev.ok _))))))))
    rw [back a b h0 h1]
    exact beq_iff_eq.2 rfl
  by_cases c1 : a = -9223372036854775808
  · refine Ev.pos c1 ?_
    cases h : b == (-1) with
    | true => exact far
    | false => exact main
  · exact Ev.neg c1 main
end Go.Proofs.YtagafmfmmnegfaaDoor.Pure
