-- WRITTEN by xprint.py (a program of this session, over the kit's print) out of the translation. Not trusted: Lean checks it.
import Derived.Test.YtfnogloefimeiaaDoorPx0
namespace Go.Proofs.YtfnogloefimeiaaDoor.P
open Go.RowKit Go.Proofs.YtfnogloefimeiaaDoorW.PrintWords Go.Proofs.YtfnogloefimeiaaDoorW.PrintLast Go.Proofs.YtfnogloefimeiaaDoorW.PrintMore
attribute [local go_sem] max2_int min2_int max_two min_two max_three min_three max_four min_four   -- for this text's walks alone
set_option linter.unusedVariables false
set_option linter.unusedSimpArgs false

-- GIVEN by hand: function 17 (spec_Upper)
/-! ### spec_Upper: function 17 -/
def upB (x : Int) : Int := if 97 ≤ x ∧ x ≤ 122 then x - 32 else x
def spec_Upper.f (a0 : ByteArray) : Option ByteArray := if a0.size ≤ 70368744177664 then some (strOfNums ((nums8 a0).map upB)) else none
set_option maxHeartbeats 800000 in
set_option maxRecDepth 100000 in
theorem spec_Upper.calls (a0 : ByteArray) (r : ByteArray) (w : World) (h : spec_Upper.f a0 = some r) :
    Calls Tryd.prog 17 #[.string a0] w fun e w' => e = .returned (.string r) ∧ Below w.heap.size w w' := by
  have hsz : a0.size ≤ 70368744177664 := by
    unfold spec_Upper.f at h
    split at h
    · assumption
    · cases h
  have hr : strOfNums ((nums8 a0).map upB) = r := by
    unfold spec_Upper.f at h
    rw [if_pos hsz] at h
    exact Option.some.inj h
  clear h
  subst hr
  have hcv := fun W => run_bytes (P := Tryd.prog) (src := 9) (dst := 37) (e := 5) Tryd.underlying9 Tryd.underlying37 Tryd.underlying5 a0 W
  have HB0 := Lib.hid (bytes_below (Below.refl w.heap.size w) (Nat.le_refl _) 5 a0)
  go_enter Tryd.func17, Tryd.ntmps17
  have hrow := NumRow.of_bytes w 5 a0
  have hl8 := nums8_length a0
  obtain ⟨W, hW⟩ : ∃ W, W = Lib.bytesWorld w 5 a0 := ⟨_, rfl⟩
  have hcw := hcv w
  clear hcv
  rw [← hW] at hcw hrow HB0
  clear hW
  go_wp2
  go_loopw [9] (fun i w' => ∃ j : Nat, i = .int .i64 j ∧ j ≤ a0.size ∧ Hid (NumRow .u8 w' w.heap.size 5 (halfMap upB (nums8 a0) j)) ∧ Hid (Below w.heap.size w w')) (fun i _ => a0.size - (intOf i).toNat)
  case atStart => exact ⟨0, rfl, by omega, by rw [halfMap_zero]; exact Lib.hid hrow, HB0⟩
  case round =>
    obtain ⟨j, rfl, hj, hR, hB⟩ := hrel
    by_cases hlt : j < a0.size
    · have hlx : j < (nums8 a0).length := by omega
      have hly : j < (halfMap upB (nums8 a0) j).length := by rw [halfMap_length _ _ _ (by omega)]; exact hlx
      have hc := hR.out.cell hly
      have hf := hR.out.free hly
      rw [halfMap_at upB _ hlx] at hc
      have hnx := halfMap_next upB (nums8 a0) hlx
      have hsm := halfMap_same upB (nums8 a0) hlx
      have hx0 : 0 ≤ (nums8 a0).getD j 0 ∧ (nums8 a0).getD j 0 ≤ 255 := by
        rw [List.getD_eq_getElem?_getD, List.getElem?_eq_getElem hlx]
        exact nums8_mem a0 _ (List.getElem_mem hlx)
      have hR2 := hR.out.set hly (upB ((nums8 a0).getD j 0))
      rw [← hnx] at hR2
      generalize (nums8 a0).getD j 0 = x at *
      obtain ⟨x0, x1⟩ := hx0
      have hR2' := Lib.hid hR2
      clear hR2 hnx
      by_cases c1 : 97 ≤ x
      · by_cases c2 : x ≤ 122
        · have hu : upB x = x - 32 := if_pos ⟨c1, c2⟩
          rw [hu] at hR2'
          clear hsm
          go_wp2
          go_roundw
          case rel => exact ⟨j + 1, by go_num, by omega, hR2', Lib.hid (hB.out.setCell (Nat.le_refl _) _)⟩
          case measure => simp [intOf]; omega
        · have hu : upB x = x := if_neg (fun h => c2 h.2)
          have hs := hsm hu
          rw [← hs] at hR
          clear hsm hs hR2'
          go_wp2
          go_roundw
          case rel => exact ⟨j + 1, by go_num, by omega, hR, hB⟩
          case measure => simp [intOf]; omega
      · have hu : upB x = x := if_neg (fun h => c1 h.1)
        have hs := hsm hu
        rw [← hs] at hR
        clear hsm hs hR2'
        go_wp2
        go_roundw
        case rel => exact ⟨j + 1, by go_num, by omega, hR, hB⟩
        case measure => simp [intOf]; omega
    · have hall := halfMap_all upB (nums8 a0) (j := j) (by omega)
      rw [hall] at hR
      have hst := hR.out.string (P := Tryd.prog) (cap := grownCap w a0.size 0 5) (src := 37) (dst := 9) Tryd.underlying37 Tryd.underlying5 Tryd.underlying9 (n := a0.size) (by rw [List.length_map, nums8_length])
      clear hall
      go_wp2
      go_ret
      exact ⟨rfl, hB.out⟩

end Go.Proofs.YtfnogloefimeiaaDoor.P
