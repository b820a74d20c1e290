-- WRITTEN by xprint.py (a program of this session, over the kit's print) out of the translation. Not trusted: Lean checks it.
import Derived.Test.YtlhijjfbcgconaaDoorZPx0
namespace Go.Proofs.YtlhijjfbcgconaaDoor.P
open Go.RowKit Go.Proofs.YtlhijjfbcgconaaDoorW.PrintWords Go.Proofs.YtlhijjfbcgconaaDoorW.PrintLast Go.Proofs.YtlhijjfbcgconaaDoorW.PrintMore
attribute [local go_sem] max2_int min2_int max_two min_two max_three min_three max_four min_four run_store_float   -- for this text's walks alone
set_option linter.unusedVariables false
set_option linter.unusedSimpArgs false

-- GIVEN by hand: function 41 (impl_caught)
/-! ### impl_caught: function 41 -/
theorem impl_caught.idle (p : Addr) (w : World) :
    CallsD Tryd.prog 61 #[.pointer (some p)] .returning w fun e u' w' => e = .returned (.tuple #[]) ∧ u' = .returning ∧ w' = w := by
  refine callsD_of_wpS Tryd.func61 rfl fun c₀ cs hu => ?_
  apply wpS_seq
  apply wpS_region
  simp [wpOpsS, go_sem, recoverD, hu, Tryd.ntmps61, Exit.thenS]
  refine wpS_cond (t := false) (by simp [Act.eval, Array.replicate]) ?_
  simp only [Bool.false_eq_true, if_false]
  refine wpS_of_wp (wp_skip ?_)
  cases c₀
  simp_all [bodyPostS, results, Tryd.results61]
set_option maxRecDepth 100000 in
/-- caught: the function returns. -/
theorem impl_caught.ok (G : FuncId) (cap : Array Value) (w : World) (R : World → Prop)
    (hR : ∀ w1, R w1 → w1.heap[w.heap.size]? = some (.cells #[.bool false] 4 (0, 0)))
    (hE : ∀ w : World, (callFunc G cap).run Tryd.prog w = .ok (.enter G cap) w)
    (hG : Calls Tryd.prog G cap (w.alloc (.cells #[.bool false] 4)) fun e w1 => e = .returned (.tuple #[]) ∧ R w1) :
    Calls Tryd.prog 41 #[.func (Fn.func G) #[] cap] w fun e w' => e = .returned (.bool true) ∧ ∃ w1, R w1 ∧ w' = w1.setCell ⟨w.heap.size, 0, none⟩ (.bool true) := by
  have HR := Lib.hid hR
  have HG := Lib.hid hG
  clear hR hG
  have hmf : ∀ (fn : Fn) (first cap : Array Value) (w : World), (Instr.makeFunc fn first cap).run Tryd.prog w = .ok (.func fn first cap) w := fun _ _ _ _ => rfl
  go_enter_defers Tryd.func41, Tryd.ntmps41
  go_wp2_with fail
  refine HG.out.mono ?_
  rintro e w1 ⟨rfl, hr⟩
  have hb := HR.out w1 hr
  have hb' := Lib.hid hb
  have hc : w1.cell? ⟨w.heap.size, 0, none⟩ = some (.bool false) := by simp [World.cell?, hb]
  have hz : w1.frozen? ⟨w.heap.size, 0, none⟩ = false := by simp [World.frozen?, hb]
  clear hb
  go_wp2_with fail
  refine leaves_cons (f := 61) (args := #[.pointer (some ⟨w.heap.size, 0, none⟩)]) (by simp) (by simp [go_sem]) ?_
  refine (impl_caught.idle ⟨w.heap.size, 0, none⟩ _).mono ?_
  rintro e u' w'' ⟨rfl, rfl, rfl⟩
  refine ⟨.bool true, ?_, rfl, w1, hr, rfl⟩
  have hb2 : (w1.setCell ⟨w.heap.size, 0, none⟩ (.bool true)).cell? ⟨w.heap.size, 0, none⟩ = some (.bool true) := cell_of_one (one_setCell hb'.out)
  simp [results, Tryd.results41, go_sem, hb2]
end Go.Proofs.YtlhijjfbcgconaaDoor.P

