-- WRITTEN by xprint.py (a program of this session, over the kit's print) out of the translation. Not trusted: Lean checks it.
import Derived.Test.YtbjoipclkapcjaaGreatDoorPx0
namespace Go.Proofs.YtbjoipclkapcjaaGreatDoor.P
open Go.RowKit Go.Proofs.YtbjoipclkapcjaaGreatDoorW.PrintWords Go.Proofs.YtbjoipclkapcjaaGreatDoorW.PrintLast Go.Proofs.YtbjoipclkapcjaaGreatDoorW.PrintMore
attribute [local go_sem] max2_int min2_int max_two min_two max_three min_three max_four min_four run_store_float   -- for this text's walks alone
set_option linter.unusedVariables false
set_option linter.unusedSimpArgs false

-- GIVEN by hand: function 8 (strconv_FormatInt_8)
/-! ### strconv_FormatInt_8: function 8 -/
/-- The table of powers of ten lies in memory as its initialiser laid it. -/
def TabsW (w : World) : Prop := Lib.TabIs Tryz.prog w "internal/strconv.uint64pow10" .u64 Lib.pow10Tab
theorem TabsW.below {w w' : World} (h : TabsW w) (hb : Below w.heap.size w w') : TabsW w' := Go.Proofs.TabIs_below (g := 0) (by kernel_rfl) h hb
theorem tabIs_of_readsW {P : Program} {W : World} {name : String} {k : IntKind} {zs : List Int} {g : Nat} {t e : TypeId} {n : Nat}
    (hg : P.globalNamed name = some g) (hty : (P.globals[g]?).map (·.type) = some t) (ht : P.underlying t = some (.array n e)) (he : P.underlying e = some (.int k)) (hce : P.cellsOf e = 1) (hct : P.cellsOf t = n)
    (h : Lib.VarReads P W name (Lib.tabData k zs)) : Lib.TabIs P W name k zs := by
  obtain ⟨g', t', cs, fuel, p, hg', ht', hvar, hd⟩ := h
  obtain rfl := Option.some.inj (hg.symm.trans hg')
  obtain rfl := Option.some.inj (hty.symm.trans ht')
  unfold Lib.TabIs
  rw [hvar, ← Lib.cells_of_tab ht he hce hct hd]
theorem below_grow_ (w : World) (k : Nat) (os : Array Obj) : Below w.heap.size w (Sort.grow (w.drewN k) os) := by
  have h := pw_below_drewN (Below.refl w.heap.size w) k
  exact ⟨h.os, h.tape, h.output, by show w.heap.size ≤ (w.heap ++ os).size; simp, fun g hg => Lib.heap_grow_old w k os g hg⟩
def strconv_FormatInt_8.f (a0 a1 : Int) : Option ByteArray := if -9223372036854775808 ≤ a0 ∧ a0 ≤ 9223372036854775807 ∧ a1 = 10 then some ⟨(Lib.itoa a0).toArray⟩ else none
theorem strconv_FormatInt_8.calls (a0 a1 : Int) (r : ByteArray) (w : World) (h : strconv_FormatInt_8.f a0 a1 = some r) (HT : TabsW w) :
    Calls Tryz.prog 8 #[.int .i64 a0, .int .i64 a1] w fun e w' => e = .returned (.string r) ∧ Below w.heap.size w w' := by
  unfold strconv_FormatInt_8.f at h
  split at h
  · rename_i hc
    obtain ⟨c0, c1, rfl⟩ := hc
    injection h with h
    subst h
    refine (Tryz.strconv_FormatInt_10 a0 c0 c1 w HT).mono ?_
    rintro e w' ⟨rfl, k, os, rfl⟩
    exact ⟨rfl, below_grow_ w k os⟩
  · cases h

end Go.Proofs.YtbjoipclkapcjaaGreatDoor.P
