-- WRITTEN by xprint.py (a program of this session, over the kit's print) out of the translation. Not trusted: Lean checks it.
import Derived.Test.YtagafmfmmnegfaaDoorPx0
import Derived.Test.YtagafmfmmnegfaaDoorPx29
import Derived.Test.YtagafmfmmnegfaaDoorPx30
import Derived.Test.YtagafmfmmnegfaaDoorPx31
namespace Go.Proofs.YtagafmfmmnegfaaDoor.P
open Go.RowKit Go.Proofs.YtagafmfmmnegfaaDoorW.PrintWords Go.Proofs.YtagafmfmmnegfaaDoorW.PrintLast Go.Proofs.YtagafmfmmnegfaaDoorW.PrintMore
attribute [local go_sem] max2_int min2_int max_two min_two max_three min_three max_four min_four   -- for this text's walks alone
set_option linter.unusedVariables false
set_option linter.unusedSimpArgs false

-- GIVEN by hand: function 75 (sprig_adler32sum)
/-! ### sprig_adler32sum: function 75 -/
theorem numRow_reads {k : IntKind} {w : World} {b e : Nat} {xs : List Int} (h : NumRow k w b e xs) (hm : xs.length ≤ 9223372036854775807) : Kd.C (Kd.int k) w (some ⟨b, 0, none⟩) xs.length xs := by
  refine ⟨rfl, hm, fun _ => ⟨_, rfl, fun j p hj => ⟨[.int k p], rfl, rfl, fun i u hu => ?_⟩⟩⟩
  obtain ⟨hl, hp⟩ := List.getElem?_eq_some_iff.1 hj
  cases i with
  | zero =>
    simp only [List.getElem?_cons_zero, Option.some.injEq] at hu
    subst hu
    have hc := h.cell hl
    rw [List.getD_eq_getElem?_getD, List.getElem?_eq_getElem hl, Option.getD_some, hp] at hc
    rw [Addr.add_lit]
    simpa [show (Kd.int k).sz = 1 from rfl] using hc
  | succ i => simp at hu
def sprig_adler32sum.f (k : Nat) (a0 : ByteArray) : Option ByteArray := if a0.size ≤ 70368744177664 then (adler32_Checksum.f k (nums8 a0)).bind fun h => if 0 ≤ h ∧ h < 4294967296 then strconv_FormatUint_96.f h 10 else none else none
theorem sprig_adler32sum.mono : ∀ a0 k, LeO (sprig_adler32sum.f k a0) (sprig_adler32sum.f (k + 1) a0) := by
  intro a0 k
  unfold sprig_adler32sum.f
  repeat' first
      | (with_reducible exact adler32_Checksum.mono _ _)
      | (with_reducible exact LeO.refl _)
      | (with_reducible refine LeO.ite ?_ ?_)
      | (with_reducible refine LeO.bind ?_ (fun _ => ?_))
set_option maxRecDepth 100000 in
theorem sprig_adler32sum.calls (k : Nat) (a0 : ByteArray) (r : ByteArray) (w : World) (h : sprig_adler32sum.f k a0 = some r) (HT0 : TabsW w) :
    Calls Tryd.prog 75 #[.string a0] w fun e w' => e = .returned (.string r) ∧ Below w.heap.size w w' := by
  unfold sprig_adler32sum.f at h
  split at h
  · rename_i hsz
    obtain ⟨hh, hc, h⟩ := Option.bind_eq_some_iff.1 h
    split at h
    · rename_i hz
      obtain ⟨z0, z1⟩ := hz
      have HC := Lib.hid hc
      have HF := Lib.hid h
      have HT := Lib.hid HT0
      clear hc h HT0
      have hcv := run_bytes (P := Tryd.prog) (src := 9) (dst := 66) (e := 5) Tryd.underlying9 Tryd.underlying66 Tryd.underlying5 a0 w
      have HB0 := Lib.hid (bytes_below (Below.refl w.heap.size w) (Nat.le_refl _) 5 a0)
      have hrow := NumRow.of_bytes w 5 a0
      have hl8 := nums8_length a0
      rw [← hl8] at hcv
      obtain ⟨W, hW⟩ : ∃ W, W = Lib.bytesWorld w 5 a0 := ⟨_, rfl⟩
      rw [← hW] at hcv hrow HB0
      have HR := Lib.hid (numRow_reads hrow (by omega))
      obtain ⟨cp, hcp⟩ : ∃ c, c = grownCap w (nums8 a0).length 0 5 := ⟨_, rfl⟩
      rw [← hcp] at hcv
      have hle := Lib.hid (show (nums8 a0).length ≤ cp by
        rw [hcp]
        exact grownCap_ge w _ 0 _)
      clear hW hrow hcp hl8
      go_enter Tryd.func75, Tryd.ntmps75
      go_wp2_with fail
      refine (adler32_Checksum.calls k _ _ (nums8 a0) hh _ HR.out hle.out HC.out).mono ?_
      rintro e w1 ⟨rfl, hb⟩
      have HB1 := Lib.hid (below_step HB0.out hb)
      clear hb
      go_wp2_with fail
      refine (strconv_FormatUint_96.calls _ _ _ _ HF.out (TabsW.below HT.out HB1.out)).mono ?_
      rintro e w2 ⟨rfl, hb⟩
      have HB2 := Lib.hid (below_step HB1.out hb)
      clear hb
      go_wp2
      go_ret
      exact ⟨rfl, HB2.out⟩
    · cases h
  · cases h

end Go.Proofs.YtagafmfmmnegfaaDoor.P
