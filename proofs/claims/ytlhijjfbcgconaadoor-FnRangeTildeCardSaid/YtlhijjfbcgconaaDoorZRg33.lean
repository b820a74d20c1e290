/- Ranges: the law FnRangeTilde. -/
import Derived.Test.YtlhijjfbcgconaaDoorZRgD
import Derived.Test.YtlhijjfbcgconaaDoorZRg26
import Derived.Test.YtlhijjfbcgconaaDoorZPx23
set_option linter.unusedVariables false
set_option linter.unusedSimpArgs false
namespace Go.Proofs.YtlhijjfbcgconaaDoor.P
open Go.RowKit Go.Proofs.YtlhijjfbcgconaaDoorW.PrintWords Go.Proofs.YtlhijjfbcgconaaDoorW.PrintLast Go.Proofs.YtlhijjfbcgconaaDoorW.PrintMore

theorem v16_call (a b c : Int) {A B C : Nat} (ha : IntKind.u64.wrap (Int.tmod a 1000) = (A : Int)) (hb : IntKind.u64.wrap (Int.tmod b 1000) = (B : Int)) (hc : IntKind.u64.wrap (Int.tmod c 1000) = (C : Int)) (W : World) :
    Calls Tryd.prog 21 #[.int .u16 a, .int .u16 b, .int .u16 c] W fun e w' => e = .returned (.agg #[.int .u64 (A : Int), .int .u64 (B : Int), .int .u64 (C : Int), .string ⟨#[]⟩, .string ⟨#[]⟩]) ∧ Below W.heap.size W w' :=
  laws_version16of.calls a b c _ _ _ _ _ W (by unfold laws_version16of.f; rw [ha, hb, hc])
theorem nd0 : Lib.nDigits 0 = 1 := Lib.nDigits_small (by decide)
theorem nd3 (A : Nat) (h : A < 1000) : Lib.nDigits A ≤ 3 := nd_le 2 A (by simpa using h)
/-- The text of a version without its last number. -/
theorem cut2 (A B : Nat) : ((verT A B 0).extract 0 (Lib.nDigits A + 1 + Lib.nDigits B)).data.toList = Lib.decDigits A ++ (46 :: Lib.decDigits B) ∧ (verT A B 0).size = (Lib.nDigits A + 1 + Lib.nDigits B) + 2 := by
  have h := part_list (verT A B 0) [] (Lib.decDigits A ++ (46 :: Lib.decDigits B)) [46, 48] (by rw [verT_list, dec0]; simp)
  rw [List.length_append, List.length_cons, Lib.decDigits_length, Lib.decDigits_length, List.length_nil, Nat.zero_add] at h
  refine ⟨by rw [show Lib.nDigits A + 1 + Lib.nDigits B = Lib.nDigits A + (Lib.nDigits B + 1) by omega]; exact h, ?_⟩
  rw [verT_size, nd0]
theorem cut1 (A : Nat) : ((verT A 0 0).extract 0 (Lib.nDigits A)).data.toList = Lib.decDigits A ∧ (verT A 0 0).size = Lib.nDigits A + 4 := by
  have h := part_list (verT A 0 0) [] (Lib.decDigits A) [46, 48, 46, 48] (by rw [verT_list, dec0]; simp)
  rw [Lib.decDigits_length, List.length_nil, Nat.zero_add] at h
  refine ⟨h, ?_⟩
  rw [verT_size, nd0]
theorem tilde_list (s : ByteArray) (l : List UInt8) (h : s.data.toList = l) : ((⟨#[126]⟩ : ByteArray) ++ s).data.toList = [126] ++ l := by
  rw [append_list, h]
set_option maxHeartbeats 3200000 in
set_option maxRecDepth 100000 in
theorem fnRangeTilde (i0 i1 i2 i3 i4 i5 : Int) (w : World) (k0 : (Lit.int IntKind.u16 i0).wf = true) (k1 : (Lit.int IntKind.u16 i1).wf = true) (k2 : (Lit.int IntKind.u16 i2).wf = true) (k3 : (Lit.int IntKind.u16 i3).wf = true) (k4 : (Lit.int IntKind.u16 i4).wf = true) (k5 : (Lit.int IntKind.u16 i5).wf = true) (hE : TabsE w) :
    Calls Tryd.prog 9 #[.int .u16 i0, .int .u16 i1, .int .u16 i2, .int .u16 i3, .int .u16 i4, .int .u16 i5] w fun e w' => e = .returned (.bool true) ∧ Below w.heap.size w w' := by
  obtain ⟨A, hA, eA, -⟩ := num16 i0 k0
  obtain ⟨B, hB, eB, -⟩ := num16 i1 k1
  obtain ⟨C, hC, eC, -⟩ := num16 i2 k2
  obtain ⟨D, hD, eD, -⟩ := num16 i3 k3
  obtain ⟨E, hE', eE, -⟩ := num16 i4 k4
  obtain ⟨F, hF, eF, -⟩ := num16 i5 k5
  have dA := nd3 A hA
  have dB := nd3 B hB
  have dC := nd3 C hC
  refine tilde_walk i0 i1 i2 i3 i4 i5 (A := A) (B := B) (C := C) (D := D) (E := E) (F := F) (n1 := Lib.nDigits A) (n2 := Lib.nDigits A + 1 + Lib.nDigits B) (T1 := verT A 0 0) (T2 := verT A B 0) (T3 := verT A B C) hA hB (cut1 A).2 (cut2 A B).2 (by rw [(cut1 A).2]; omega) (by rw [(cut2 A B).2]; omega) (by rw [verT_size]; omega)
    (fun W => v16_call i0 i1 i2 eA eB eC W) (fun W => v16_call i3 i4 i5 eD eE eF W) (fun W => text_call A 0 0 hA (by decide) (by decide) W) (fun W => text_call A B 0 hA hB (by decide) W) (fun W => text_call A B C hA hB hC W) w ?_ ?_ ?_
  · exact fun h0 W hW => rg_tilde3 _ A B C hA hB hC h0 D E F hD hE' hF (tilde_list _ _ (verT_list A B C)) W (hE.below hW)
  · exact fun h0 W hW => rg_tilde2 _ A B hA hB h0 D E F hD hE' hF (tilde_list _ _ (cut2 A B).1) W (hE.below hW)
  · exact fun h0 W hW => rg_tilde1 _ A hA D E F hD hE' hF (tilde_list _ _ (cut1 A).1) W (hE.below hW)
end Go.Proofs.YtlhijjfbcgconaaDoor.P

