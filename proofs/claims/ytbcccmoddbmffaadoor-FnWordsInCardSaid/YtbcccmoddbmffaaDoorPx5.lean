-- WRITTEN by xprint.py (a program of this session, over the kit's print) out of the translation. Not trusted: Lean checks it.
import Derived.Test.YtbcccmoddbmffaaDoorPx0
namespace Go.Proofs.YtbcccmoddbmffaaDoor.P
open Go.RowKit Go.Proofs.YtbcccmoddbmffaaDoorW.PrintWords Go.Proofs.YtbcccmoddbmffaaDoorW.PrintLast Go.Proofs.YtbcccmoddbmffaaDoorW.PrintMore
attribute [local go_sem] max2_int min2_int max_two min_two max_three min_three max_four min_four   -- for this text's walks alone
set_option linter.unusedVariables false
set_option linter.unusedSimpArgs false

-- GIVEN by hand: function 86 (unicode_IsLetter)
/-! ### unicode_IsLetter: function 86 -/
/-- The table of unicode's properties lies in memory as its initialiser laid it. -/
def TabsP (w : World) : Prop := Lib.TabIs Tryd.prog w "unicode.properties" .u8 Lib.propertiesTab
theorem TabsP.below {w w' : World} (h : TabsP w) (hb : Below w.heap.size w w') : TabsP w' := Go.Proofs.TabIs_below (g := 2) (by kernel_rfl) h hb
theorem tabIs_of_reads {P : Program} {W : World} {name : String} {k : IntKind} {zs : List Int} {g : Nat} {t e : TypeId} {n : Nat}
    (hg : P.globalNamed name = some g) (hty : (P.globals[g]?).map (·.type) = some t) (ht : P.underlying t = some (.array n e)) (he : P.underlying e = some (.int k)) (hce : P.cellsOf e = 1) (hct : P.cellsOf t = n)
    (h : Lib.VarReads P W name (Lib.tabData k zs)) : Lib.TabIs P W name k zs := by
  obtain ⟨g', t', cs, fuel, p, hg', ht', hvar, hd⟩ := h
  obtain rfl := Option.some.inj (hg.symm.trans hg')
  obtain rfl := Option.some.inj (hty.symm.trans ht')
  unfold Lib.TabIs
  rw [hvar, ← Lib.cells_of_tab ht he hce hct hd]
def unicode_IsLetter.f (a0 : Int) : Option Bool := if 0 ≤ a0 ∧ a0 ≤ 255 then some (Lib.isLetterL a0) else none
theorem unicode_IsLetter.calls (a0 : Int) (r : Bool) (w : World) (h : unicode_IsLetter.f a0 = some r) (HT : TabsP w) :
    Calls Tryd.prog 86 #[.int .i32 a0] w fun e w' => e = .returned (.bool r) ∧ Below w.heap.size w w' := by
  unfold unicode_IsLetter.f at h
  split at h
  · rename_i hc
    injection h with h
    subst h
    obtain ⟨n, rfl⟩ : ∃ n : Nat, a0 = n := ⟨a0.toNat, by omega⟩
    refine (Tryd.unicode_IsLetter n w (by omega) HT).mono ?_
    rintro e w' ⟨rfl, rfl⟩
    exact ⟨rfl, Below.refl _ _⟩
  · cases h

end Go.Proofs.YtbcccmoddbmffaaDoor.P
