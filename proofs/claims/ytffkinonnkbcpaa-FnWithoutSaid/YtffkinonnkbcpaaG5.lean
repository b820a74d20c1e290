/- valuesOf: a list of interface values as data. -/
import Derived.Test.YtffkinonnkbcpaaG4
set_option linter.unusedVariables false
set_option linter.unusedSimpArgs false
namespace Go.Proofs.Ytffkinonnkbcpaa.P
open Go.RowKit Go.Proofs.YtffkinonnkbcpaaW.PrintWords Go.Proofs.YtffkinonnkbcpaaW.PrintLast Go.Proofs.YtffkinonnkbcpaaW.PrintMore
attribute [local go_sem] run_store_float

theorem info_val : (Try.prog.info? 31).map (fun i => (i.zero, i.size, i.bytes)) = some (some (.agg #[(.int .i64 0), (.int .i64 0), (.float .f64 0), (.string ⟨#[]⟩), (.slice none 0 0), (.slice none 0 0)]), 6, 88) := by kernel_rfl
/-- What valueOf hands back, as an element. -/
theorem val_M {w1 w2 : World} {y : S31} {v4 v5 : Value} {B : Nat} (hB : B ≤ w1.heap.size) (h4 : Kd.R Kd.string 9 w2 w1.heap.size (fun _ => True) v4 y.f4) (h5 : Kd.R k31 31 w2 w1.heap.size (fun k => some k ≠ v4.ownBlock) v5 y.f5) :
    k31.M w2 B (fun q => w1.heap.size ≤ q ∧ q < w2.heap.size) y [.int .i64 y.f0, .int .i64 y.f1, .float .f64 y.f2, .string y.f3, v4, v5] :=
  k31_mkM w2 B _ y (Kd.R_mono (Kd.R_lower (Kd.R_bound h4) hB) (fun _ hk => ⟨hk.2.1, hk.2.2.1⟩)) (Kd.R_mono (Kd.R_lower (Kd.R_bound h5) hB) (fun _ hk => ⟨hk.2.1, hk.2.2.1⟩))
theorem row_lt {n : Nat} {ok : Nat → Prop} {w : World} {l : List S31} {u : Value} {g : Nat} (h : RowOf (GoN n ok w) ok w l u) (hu : u.ownBlock = some g) : g < w.heap.size := by
  obtain ⟨g', c, vs, rfl, _, _, ho, _⟩ := h
  exact (ho.lt g hu).2
set_option maxHeartbeats 3200000 in
set_option maxRecDepth 100000 in
theorem valuesOf_step {n : Nat} (hV : ValueOfOk n) : ValuesOfOk n := by
  intro l u ok w hf hl hr
  have hr' := Lib.hid hr
  obtain ⟨g, c, vs, rfl, hg, hvs, ho, hel⟩ := hr
  have hgl := (ho.lt g (by simp [Value.ownBlock])).2
  have HV := Lib.hid hV
  have HF := Lib.hid hf
  have HO := Lib.hid ho
  have HE := Lib.hid hel
  have HVS := Lib.hid hvs
  have HGL := Lib.hid hgl
  clear hV hf ho hel hr' hvs hgl
  obtain ⟨N, hNN⟩ : ∃ N, N = l.length := ⟨_, rfl⟩
  have HN := Lib.hid hNN
  rw [← hNN] at hl ⊢
  clear hNN
  obtain ⟨L, hLL⟩ : ∃ L, L = l.map (normN n) := ⟨_, rfl⟩
  have HL := Lib.hid hLL
  have HLn := Lib.hid (show L.length = l.length by rw [hLL]; simp)
  rw [← hLL]
  clear hLL
  go_enter Try.func20, Try.ntmps20
  go_wp2
  go_loopw [3, 8] (fun v i wr => ∃ k : Nat, ∃ v' : Value, v' = v ∧ i = .int .i64 k ∧ k ≤ N ∧ Hid (k31.R 31 wr w.heap.size (fun _ => True) v' (L.take k)) ∧ Hid (Below w.heap.size w wr) ∧ Hid (w.heap.size ≤ wr.heap.size)) (fun _ i _ => N - (intOf i).toNat)
  case atStart => exact ⟨0, _, rfl, rfl, Nat.zero_le _, Lib.hid (by rw [List.take_zero]; exact Kd.R_nil _ _ _ _ _), Lib.hid (Below.refl _ _), Lib.hid (Nat.le_refl _)⟩
  case round =>
    obtain ⟨k, v, rfl, rfl, hk, hR, hB, hS⟩ := hrel
    by_cases ck : k < N
    · have hcell : wr.cell? ⟨g, k, none⟩ = some (vs.getD k .nilIface) := by
        have h1 : vs[k]? = some (vs.getD k .nilIface) := by rw [List.getD_eq_getElem?_getD, List.getElem?_eq_getElem (by rw [HVS.out, ← HN.out]; exact ck)]; rfl
        have h2 := HO.out.cells (g := g) (by simp [Value.ownBlock]) k _ h1
        rw [Addr.add_lit, Nat.zero_add] at h2
        exact (hB.out.cell HGL.out).trans h2
      have hgo := HE.out k (by rw [← HN.out]; exact ck)
      have hfk := HF.out k (by rw [← HN.out]; exact ck)
      have hgo2 := hgo.imp (w' := wr) (Nat.le_refl n) (fun _ h _ => h) (fun q _ hlt => hB.out.block q hlt)
      have hLk := Lib.hid (show L.take (k + 1) = L.take k ++ [normN n (l.getD k z31)] by
        have h1 : k < L.length := by rw [HLn.out, ← HN.out]; exact ck
        rw [List.take_succ_eq_append_getElem h1]
        congr 2
        have h2 : k < l.length := by rw [← HN.out]; exact ck
        simp [HL.out, List.getD_eq_getElem?_getD, h2])
      have hLt := Lib.hid (show (L.take k).length = k by rw [List.length_take, HLn.out, ← HN.out]; omega)
      generalize l.getD k z31 = x at *
      generalize vs.getD k .nilIface = r at *
      generalize hy : normN n x = y at *
      have HFK := Lib.hid hfk
      have HGO := Lib.hid hgo2
      have HY := Lib.hid hy
      clear hgo hfk hgo2 hy
      have HVx := Lib.hid (HV.out x r ok wr HFK.out HGO.out)
      rw [HY.out] at HVx
      clear HFK HGO HY
      go_wp2_with fail
      refine (HVx.out).mono ?_
      rintro e w2 ⟨v4, v5, rfl, h4, h5, hb⟩
      obtain ⟨A4, m4, c4, rfl⟩ : ∃ A m c, v4 = .slice A m c := by obtain ⟨A, c, h⟩ := Kd.R_slice h4; exact ⟨A, _, c, h⟩
      obtain ⟨A5, m5, c5, rfl⟩ : ∃ A m c, v5 = .slice A m c := by obtain ⟨A, c, h⟩ := Kd.R_slice h5; exact ⟨A, _, c, h⟩
      have HM := Lib.hid (val_M hS.out h4 h5)
      have HR2 := Lib.hid (Kd.R_below hR.out hb)
      have HNE := Lib.hid (show ∀ q, wr.heap.size ≤ q → some q ≠ v.ownBlock from fun q hq h => by
        obtain ⟨inner, ho⟩ := Kd.R_own hR.out
        have := (ho.lt q h.symm).2
        omega)
      have HB2 := Lib.hid (hB.out.trans (hb.mono hS.out))
      have HS2 := Lib.hid (Nat.le_trans hS.out hb.size)
      clear h4 h5 hb hcell HVx hR hB
      go_wp2_with (at_builtin; refine Kd.R_append k31 (w0 := w) w.heap.size rfl _ _ 22 31 (.agg #[(.int .i64 0), (.int .i64 0), (.float .f64 0), (.string ⟨#[]⟩), (.slice none 0 0), (.slice none 0 0)]) 88 rfl Try.underlying22 info_val rfl (by decide) (by decide) v (L.take k) y [.int .i64 y.f0, .int .i64 y.f1, .float .f64 y.f2, .string y.f3, .slice A4 m4 c4, .slice A5 m5 c5] (fun _ => True) _ rfl rfl HM.out (fun q hq => ⟨trivial, HNE.out q hq.1⟩) (fun _ _ => trivial) HR2.out HB2.out HS2.out (by rw [hLt.out]; omega) ?_)
      intro v1 w3 h1 hb1 hg1 hat1
      have HR3 := Lib.hid (show k31.R 31 w3 w.heap.size (fun _ => True) v1 (L.take (k + 1)) by rw [hLk.out]; exact h1)
      have HB3 := Lib.hid hb1
      have HS3 := Lib.hid (Nat.le_trans HS2.out hg1.size)
      clear h1 hb1 hg1 hat1 HM HR2 HNE HB2 HS2 hLk
      go_wp2
      go_roundw
      case rel => exact ⟨k + 1, v1, rfl, by go_num, by omega, HR3, HB3, HS3⟩
      case measure => simp [intOf]; omega
    · have hkn : k = N := by omega
      subst hkn
      have HR3 := Lib.hid (show k31.R 31 wr w.heap.size (fun _ => True) v L by have := hR.out; rw [List.take_of_length_le (by rw [HLn.out, ← HN.out]; exact Nat.le_refl _)] at this; exact this)
      clear hR
      go_wp2
      go_ret
      exact ⟨_, rfl, HR3.out, hB.out⟩
end Go.Proofs.Ytffkinonnkbcpaa.P
