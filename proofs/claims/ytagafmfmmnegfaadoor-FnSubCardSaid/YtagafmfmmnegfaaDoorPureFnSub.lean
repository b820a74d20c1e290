/- Sub is the difference modulo 2 to the power of 64, and add brings it back: for every two integers. Nothing is assumed but what every Go int64 fulfils. -/
import Derived.Test.YtagafmfmmnegfaaDoorPx19
namespace Go.Proofs.YtagafmfmmnegfaaDoor.Pure
open Go.RowKit Go.Proofs.YtagafmfmmnegfaaDoor.P Go.Proofs.YtagafmfmmnegfaaDoorW.PrintWords Go.Proofs.YtagafmfmmnegfaaDoorW.PrintLast

theorem wf_range {a : Int} (h : (Lit.int .i64 a).wf = true) : -9223372036854775808 ≤ a ∧ a ≤ 9223372036854775807 := by
  simp [Lit.wf, IntKind.min, IntKind.max, IntKind.signed, IntKind.bits] at h
  omega
theorem back (a b : Int) (h0 : -9223372036854775808 ≤ a) (h1 : a ≤ 9223372036854775807) : sum64 [wrap64 (a - b), b] = a := by
  show wrap64 (wrap64 (0 + wrap64 (a - b)) + b) = a
  unfold wrap64
  omega

theorem FnSub : laws_FnSub.Pure := by
  intro a b ha _
  obtain ⟨h0, h1⟩ := wf_range ha
  unfold laws_FnSub.f impl_Sub.f impl_Add.f
  simp only [Option.bind_some]
  rw [if_pos trivial, if_pos (by simp)]
  simp only [Option.bind_some]
  rw [back a b h0 h1]
  simp
end Go.Proofs.YtagafmfmmnegfaaDoor.Pure
